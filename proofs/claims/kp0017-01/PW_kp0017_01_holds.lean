import PyProof.Rows.All
import Wide.All
import OpenK.AllK
import Wide.FinOn
import Flt.RightMore
import Flt.RightSqrt
import KE.KSlice
import KE.LcTurns
import PyProof.Cells
import PyProof.CompFree
import PyProof.CompMap
import PyProof.FactsAll.tuple_2
import PyProof.ListIndexNeg
import PyProof.Rows.SeqMore
import PyProof.Rows.SortKeyStr
import PyProof.Rows.SortRuns
import PySem.Builtin.Math.Norm
import Lean
import PySem.Challenge.RW_kp0017_01
set_option Elab.async false
-- HT
section
open PySem PySem.W PySem.Calls PyProof.Rows
set_option maxRecDepth 100000
namespace Mine
/-- the walk's promise, with the laying of the arguments in hand -/
abbrev WalkT (q : Program) (loose : List Str) (XP : (Str → Option Value) → Heap → Prop) (YP : World → Heap → Prop) (r : RowW) (d : DefRec) (kwd : List (Str × Expr)) (run : Value → List Value → Sem Value) : Prop :=
  ∀ (w : World) (s₀ s₁ : Shared) (mg mb : Str → Option Value), Ground q loose r.records XP w s₀ mg mb s₁.heap → YP w s₁.heap → ∀ (a : Addr) (o : Obj) (pm cd doc dV kV : Value), s₁.heap.get? a = some o →
    o.data = .func { docDef d.name d.params d.body d.scope pm cd doc with defaults := dV, kwdefaults := kV } → s₁.heap.CodeRec cd d.name → Dflts mg s₁.heap d.params kwd dV kV → mg d.name = some (.ref a) → s₁.gens = #[] →
    ∀ (args : List WData) (vals : List Value) (as : List Addr), r.claim.pre args = true → WData.layableAll args = true → ReadsAllW r.records (classAt s₀.heap) s₁.heap vals args as → WellAll w.params s₁.heap vals args → (∀ a ∈ as, (a == sysModules) = false) →
      Laid r.records w s₀ s₁ args vals as → 0 < s₀.toks →
      wpAny (model r.prog w) callerA (run (.ref a) vals) (fun v s' => GoodWG r.claim (classAt s₀.heap) (ExcName.means s₀.heap) args s₁ (.ok (.ret v)) s')
        (fun e s' => GoodWG r.claim (classAt s₀.heap) (ExcName.means s₀.heap) args s₁ (.error e) s') s₁

theorem open_anyT {r : RowW} {run : Value → List Value → Sem Value} {tree : List Value → Sem Fin} {q : Program} {loose defs kps : List Str} {writes : Bool} {Xt : Shared → Bool} {XP : (Str → Option Value) → Heap → Prop} {α : Type} {Yf : Shared → α} {Ya : World → α} {YP : World → Heap → Prop} {N : Nat}
    (lt : LeftO r.prog q loose Xt (fun s => (Yf s, decide (0 < s.toks))) (fun w => (Ya w, true)) N) (hY : ∀ w s, Yf s = Ya w → YP w s.heap) (hYk : ∀ w h h', YP w h → (∀ b o, h.get? b = some o → h'.get? b = some o) → YP w h') (hX : ∀ s, Xt s = true → XP (s.heap.nsMap mainGlobals) s.heap) (hXk : ∀ mg h h', XP mg h → (∀ b o, h.get? b = some o → h'.get? b = some o) → XP mg h')
    (hRf : ∀ s, Xt s = true → RecFacts r.records s.heap) (hwr : (!writes || r.records.isEmpty) = true) (ok : (chainsOk q && opensWell r.prog && (frees r && r.within.isEmpty)) = true) (hb : r.prog.bare) (hw : r.promised)
    (ht : ∀ vs (w : World) (s : Shared) mg f (Q : Fin → Shared → Prop) (E : Value → Shared → Prop), s.heap.Ns mainGlobals mg → mg r.name = some f → wpAny (model r.prog w) callerA (run f vs) (fun v s' => Q (.done (.ret v)) s') E s → wpAny (model r.prog w) callerA (tree vs) Q E s)
    (pin : ∀ w s, s.heap.isNs mainGlobals = true → Ground q loose [] XP w s (s.heap.nsMap mainGlobals) (s.heap.nsMap builtinsNs) s.heap → ∀ n ∈ defs, isTheDefsW r.prog s.heap n)
    (call : ∀ (w : World) (s₀ s₁ : Shared) (mg mb : Str → Option Value), Ground q loose r.records XP w s₀ mg mb s₁.heap → YP w s₁.heap → ∀ (args : List WData) (vs : List Value) (as : List Addr),
      r.claim.pre args = true → WData.layableAll args = true → Laid r.records w s₀ s₁ args vs as → sysModules < s₀.heap.objs.size → 0 < s₀.toks → ∃ f, mg r.name = some f ∧
        wpAny (model r.prog w) callerA (run f vs) (fun v s' => GoodWG r.claim (classAt s₀.heap) (ExcName.means s₀.heap) args s₁ (.ok (.ret v)) s')
          (fun e s' => GoodWG r.claim (classAt s₀.heap) (ExcName.means s₀.heap) args s₁ (.error e) s') s₁) : r.claim.HoldsOpenBy (fun vs => ⟨tree vs, .builtin "claim.caller" {}, default, []⟩) defs kps writes := by
  obtain ⟨okA, okB⟩ := Bool.and_eq_true_iff.mp ok
  obtain ⟨hch, hop⟩ := Bool.and_eq_true_iff.mp okA
  obtain ⟨hfr, hwn⟩ := Bool.and_eq_true_iff.mp okB
  obtain ⟨hsame, hu, ha, hap, hm⟩ := frees_parts hfr
  have both := fun w => lt.behind (XP := fun mg h => XP mg h ∧ RecFacts r.records h) (fun s hs => ⟨hX s hs, hRf s hs⟩) hch w
  refine ⟨⟨hb, hop, by show r.makers.map _ = []; rw [hm]; rfl⟩, hw.witness, fun w => ⟨(both w).1, fun s' hs' => ?_⟩⟩
  obtain ⟨s₀, hf, hg0, s, hT, hz, hgens, hg, GX, y⟩ := (both w).2 s' hs'
  obtain ⟨y, htk⟩ := Prod.mk.inj y
  have htk : 0 < s.toks := of_decide_eq_true htk
  have G0 : Ground q loose [] XP w s (s.heap.nsMap mainGlobals) (s.heap.nsMap builtinsNs) s.heap := ⟨GX.T, GX.B, GX.D, GX.TE, GX.TD, GX.W, GX.X.1, GX.cls, GX.has, GX.apart, GX.once, GX.K⟩
  have RF := GX.X.2
  refine ⟨s₀, hf, hg0, s, hT, pin w s hg G0, RF.1, RF.2.1, ?_⟩
  have hgens : s.gens = #[] := Array.eq_empty_of_size_eq_zero (beq_iff_eq.mp hgens)
  have G : Ground q loose r.records XP w s _ _ s.heap := RF.ground G0
  refine ClaimW.callFrom_of_specG (c := r.claim) hz hgens fun args hpre hlay ord hord => ?_
  obtain ⟨⟨vs, s₁⟩, hlaid⟩ := Option.isSome_iff_exists.mp (layAllW_isSome (P := w.params) (ord := ord) G.has args r.args s (pre_splitW hpre).1)
  have keeps := layAllW_keeps _ _ _ hlaid
  have hal := layAllW_rest _ _ _ hlaid
  obtain ⟨as, hrd, hin, hold⟩ := reads_layAllW hord _ _ _ hlaid hlay s₁.heap (fun _ _ e => e)
  have L : Laid r.records w s s₁ args vs as := ⟨⟨ord, hord, hlaid⟩, hrd, hin, hold, keeps, hal.1.trans hgens, hal.2.2.1⟩
  obtain ⟨f, hf', h⟩ := call w s s₁ _ _ (G.keeps hXk keeps) (hYk _ _ _ (hY w s y) keeps) args vs as hpre hlay L G.low htk
  have hi := ident_freeW hu ha hap
  have hwi : r.claim.within = [] := List.isEmpty_iff.mp hwn
  exact ⟨vs, s₁, hlaid, ht vs w s₁ _ f _ _ (G.keeps hXk keeps).T.g hf' (wpAny_mono h
    (fun v s' g => ⟨_, rfl, have z := g.laid (c := r.claim) hsame hwi hi L; ⟨z.1, z.2.1, z.2.2, fun q => ⟨namesKept_of hT hg kps keeps g.2.1.old, noTable hwr q⟩⟩⟩)
    fun e s' g => have z := g.laid (c := r.claim) hsame hwi hi L; ⟨z.1, z.2.1, z.2.2, fun q => ⟨namesKept_of hT hg kps keeps g.2.1.old, noTable hwr q⟩⟩)⟩

/-- the head, with the laying in hand -/
theorem open_holds {r : OpenRow} {q : Program} {loose : List Str} {Xt : Shared → Bool} {XP : (Str → Option Value) → Heap → Prop} {α : Type} {Yf : Shared → α} {Ya : World → α} {YP : World → Heap → Prop} {d : DefRec} {kwd : List (Str × Expr)} {N : Nat}
    (lt : LeftO r.prog q loose Xt (fun s => (Yf s, decide (0 < s.toks))) (fun w => (Ya w, true)) N) (hY : ∀ w s, Yf s = Ya w → YP w s.heap) (hYk : ∀ w h h', YP w h → (∀ b o, h.get? b = some o → h'.get? b = some o) → YP w h')
    (hX : ∀ s, Xt s = true → XP (s.heap.nsMap mainGlobals) s.heap) (hXk : ∀ mg h h', XP mg h → (∀ b o, h.get? b = some o → h'.get? b = some o) → XP mg h')
    (hdef : defOf q r.name = some (d, kwd)) (hp : r.prog.theDef r.name = some (d.params, d.body, d.scope)) (hk : kwWritten? d.params.kwonlyargs d.params.kw_defaults = some kwd) (hRf : ∀ s, Xt s = true → RecFacts r.records s.heap) (hwr : (!r.writes || r.records.isEmpty) = true)
    (k1 : r.wellSaid = true) (ok : (chainsOk q && opensWell r.prog && (frees r.toRowW && r.within.isEmpty)) = true) (hb : r.prog.bare) (hw : r.toRowW.promised)
    (call : WalkT q loose XP YP r.toRowW d kwd fun f vs => PySem.call f vs) : r.Holds := by
  refine ⟨k1, hw, open_anyT (r := r.toRowW) (run := fun f vs => PySem.call f vs) (tree := fun vs => do match ← nsGet mainNs r.name with
      | some f => do ret (← PySem.call f vs)
      | none => unsupported "claim.caller:no-such-global") lt hY hYk hX hXk hRf hwr ok hb hw
    (fun vs w s mg f Q E hg hf h => wpAny_bind (wpAny_nsGet hg (by rw [hf]; exact wpAny_bind (wpAny_mono h (fun _ _ x => wpAny_pure x) fun _ _ x => x))))
    (fun w s hg G n hn => ?_) fun w s₀ s₁ mg mb G Y args vs as hpre hlay L low ht => ?_⟩
  · obtain rfl : n = r.name := by split at hn <;> simp_all
    exact pinned_of_view hg G hdef hp hk
  · obtain ⟨a, o, pm, cd, doc, dV, kV, h1, h2, h3, h4, h5⟩ := G.fn hdef
    exact ⟨.ref a, h1, call w s₀ s₁ mg mb G Y a o pm cd doc dV kV h2 h3 h4 h5 (defOf_name hdef ▸ h1) L.gens args vs as hpre hlay L.reads L.well (L.low low) L ht⟩
end Mine
end

-- HD
section
open PySem PySem.W PySem.Calls PyProof.Rows
set_option maxRecDepth 100000
namespace Mine
/-- the program's statements and the functions' objects, taken out of the program by their places -/
noncomputable def hdStm (i : Nat) : Stmt := (PySem.Challenge.rw_kp0017_01.prog.main.body).getD i (.Pass default)
noncomputable def hdSub (i j : Nat) : Stmt := match hdStm i with
  | .ClassDef _ _ _ b _ _ _ _ _ _ _ => b.getD j (.Pass default)
  | s => s
noncomputable def hdFn (s : Stmt) (name qual : Str) (dV kV doc pm : Value) (an : Option Addr) (cdv ct : Value) : Obj := match s with
  | .FunctionDef _ ps b _ _ _ sc _ _ _ => { cls := .type "function", data := .func (fnOf name qual ps b sc dV kV doc pm an cdv ct) }
  | _ => { cls := .none, data := .freed }
noncomputable def o49 : { x : Obj // hdFn (hdStm 1) "_wall" "_wall" .none .none .none (.str "__main__" 164) none (.ref 48) .none = x } := ⟨⟨_, _, _, _⟩, rfl⟩
noncomputable def o69 : { x : Obj // hdFn (hdStm 6) "_is_int" "_is_int" .none .none .none (.str "itertools" 419) none (.ref 68) .none = x } := ⟨⟨_, _, _, _⟩, rfl⟩
noncomputable def o76 : { x : Obj // hdFn (hdStm 7) "_pull" "_pull" .none .none .none (.str "itertools" 419) none (.ref 75) .none = x } := ⟨⟨_, _, _, _⟩, rfl⟩
noncomputable def o83 : { x : Obj // hdFn (hdStm 8) "_same" "_same" .none .none .none (.str "itertools" 419) none (.ref 82) .none = x } := ⟨⟨_, _, _, _⟩, rfl⟩
noncomputable def o99 : { x : Obj // hdFn (hdSub 9 1) "__init__" "groupby.__init__" (.ref 92) .none .none (.str "itertools" 419) none (.ref 98) .none = x } := ⟨⟨_, _, _, _⟩, rfl⟩
noncomputable def o106 : { x : Obj // hdFn (hdSub 9 2) "__iter__" "groupby.__iter__" .none .none .none (.str "itertools" 419) none (.ref 105) .none = x } := ⟨⟨_, _, _, _⟩, rfl⟩
noncomputable def o113 : { x : Obj // hdFn (hdSub 9 3) "_step" "groupby._step" .none .none .none (.str "itertools" 419) none (.ref 112) .none = x } := ⟨⟨_, _, _, _⟩, rfl⟩
noncomputable def o120 : { x : Obj // hdFn (hdSub 9 4) "__next__" "groupby.__next__" .none .none .none (.str "itertools" 419) none (.ref 119) .none = x } := ⟨⟨_, _, _, _⟩, rfl⟩
noncomputable def o151 : { x : Obj // hdFn (hdSub 10 1) "__init__" "_grouper.__init__" .none .none .none (.str "itertools" 419) none (.ref 150) .none = x } := ⟨⟨_, _, _, _⟩, rfl⟩
noncomputable def o158 : { x : Obj // hdFn (hdSub 10 2) "__iter__" "_grouper.__iter__" .none .none .none (.str "itertools" 419) none (.ref 157) .none = x } := ⟨⟨_, _, _, _⟩, rfl⟩
noncomputable def o165 : { x : Obj // hdFn (hdSub 10 3) "__next__" "_grouper.__next__" .none .none .none (.str "itertools" 419) none (.ref 164) .none = x } := ⟨⟨_, _, _, _⟩, rfl⟩
noncomputable def o181 : { x : Obj // hdFn (hdStm 11) "_count_kind" "_count_kind" .none .none .none (.str "itertools" 419) none (.ref 180) .none = x } := ⟨⟨_, _, _, _⟩, rfl⟩
noncomputable def o197 : { x : Obj // hdFn (hdSub 12 1) "__init__" "count.__init__" (.ref 190) .none .none (.str "itertools" 419) none (.ref 196) .none = x } := ⟨⟨_, _, _, _⟩, rfl⟩
noncomputable def o204 : { x : Obj // hdFn (hdSub 12 2) "__iter__" "count.__iter__" .none .none .none (.str "itertools" 419) none (.ref 203) .none = x } := ⟨⟨_, _, _, _⟩, rfl⟩
noncomputable def o211 : { x : Obj // hdFn (hdSub 12 3) "__next__" "count.__next__" .none .none .none (.str "itertools" 419) none (.ref 210) .none = x } := ⟨⟨_, _, _, _⟩, rfl⟩
noncomputable def o218 : { x : Obj // hdFn (hdSub 12 4) "__repr__" "count.__repr__" .none .none .none (.str "itertools" 419) none (.ref 217) .none = x } := ⟨⟨_, _, _, _⟩, rfl⟩
noncomputable def o242 : { x : Obj // hdFn (hdSub 14 1) "__init__" "itemgetter.__init__" .none .none .none (.str "operator" 664) none (.ref 241) .none = x } := ⟨⟨_, _, _, _⟩, rfl⟩
noncomputable def o249 : { x : Obj // hdFn (hdSub 14 2) "__call__" "itemgetter.__call__" .none .none .none (.str "operator" 664) none (.ref 248) .none = x } := ⟨⟨_, _, _, _⟩, rfl⟩
noncomputable def o256 : { x : Obj // hdFn (hdSub 14 3) "__repr__" "itemgetter.__repr__" .none .none .none (.str "operator" 664) none (.ref 255) .none = x } := ⟨⟨_, _, _, _⟩, rfl⟩
noncomputable def o263 : { x : Obj // hdFn (hdSub 14 4) "__reduce__" "itemgetter.__reduce__" .none .none .none (.str "operator" 664) none (.ref 262) .none = x } := ⟨⟨_, _, _, _⟩, rfl⟩
noncomputable def o278 : { x : Obj // hdFn (hdStm 16) "_rank" "_rank" .none (.ref 271) .none (.str "cpy313.statistics" 722) none (.ref 277) .none = x } := ⟨⟨_, _, _, _⟩, rfl⟩
noncomputable def o285 : { x : Obj // hdFn (hdStm 17) "_sqrtprod" "_sqrtprod" .none .none .none (.str "cpy313.statistics" 722) none (.ref 284) .none = x } := ⟨⟨_, _, _, _⟩, rfl⟩
noncomputable def o291 : { x : Obj // hdFn (hdStm 18) "correlation" "correlation" .none (.ref 286) .none (.str "cpy313.statistics" 722) none (.ref 290) .none = x } := ⟨⟨_, _, _, _⟩, rfl⟩
noncomputable def o298 : { x : Obj // hdFn (hdStm 20) "_law_unlike" "_law_unlike" .none .none .none (.str "law_kp0017_01" 770) none (.ref 297) .none = x } := ⟨⟨_, _, _, _⟩, rfl⟩
noncomputable def o305 : { x : Obj // hdFn (hdStm 21) "_law_asked" "_law_asked" .none .none .none (.str "law_kp0017_01" 770) none (.ref 304) .none = x } := ⟨⟨_, _, _, _⟩, rfl⟩
noncomputable def o312 : { x : Obj // hdFn (hdStm 22) "_law_wrong_way" "_law_wrong_way" .none .none .none (.str "law_kp0017_01" 770) none (.ref 311) .none = x } := ⟨⟨_, _, _, _⟩, rfl⟩
noncomputable def o317 : { x : Obj // hdFn (hdStm 23) "_law_found" "_law_found" .none .none .none (.str "law_kp0017_01" 770) none (.ref 316) .none = x } := ⟨⟨_, _, _, _⟩, rfl⟩
noncomputable def o322 : { x : Obj // hdFn (hdStm 24) "law" "law" .none .none .none (.str "law_kp0017_01" 770) none (.ref 321) .none = x } := ⟨⟨_, _, _, _⟩, rfl⟩
/-- the written part of the heap that the text's top leaves -/
noncomputable def hd.heap_39 : Params → Frag := fun P =>
  (nat_lit 3, ⟨(.type "dict"), none, (.dict #[⟨PyData.keyHash P "__name__", (.str "__name__" 165), (.str "law_kp0017_01" 770)⟩, ⟨PyData.keyHash P "__doc__", (.str "__doc__" 166), .none⟩, ⟨PyData.keyHash P "__package__", (.str "__package__" 167), .none⟩, ⟨PyData.keyHash P "__loader__", (.str "__loader__" 168), (.builtin "__main__.__loader__#opaque")⟩, ⟨PyData.keyHash P "__spec__", (.str "__spec__" 169), .none⟩, ⟨PyData.keyHash P "__annotations__", (.str "__annotations__" 170), (.ref 6)⟩, ⟨PyData.keyHash P "__builtins__", (.str "__builtins__" 171), (.ref 4)⟩, ⟨PyData.keyHash P "__file__", (.str "__file__" 173), (.str "/claim/cut.py" 172)⟩, ⟨PyData.keyHash P "__cached__", (.str "__cached__" 174), .none⟩, ⟨PyData.keyHash P "fsum", (.str "fsum" 373), (.builtin "math.fsum")⟩, ⟨PyData.keyHash P "isfinite", (.str "isfinite" 376), (.builtin "math.isfinite")⟩, ⟨PyData.keyHash P "isinf", (.str "isinf" 379), (.builtin "math.isinf")⟩, ⟨PyData.keyHash P "sqrt", (.str "sqrt" 382), (.builtin "math.sqrt")⟩, ⟨PyData.keyHash P "sumprod", (.str "sumprod" 385), (.builtin "math.sumprod")⟩, ⟨PyData.keyHash P "_wall", (.str "_wall" 398), (.ref 49)⟩, ⟨PyData.keyHash P "StatisticsError", (.str "StatisticsError" 418), (.ref 59)⟩, ⟨PyData.keyHash P "_MAXSIZE", (.str "_MAXSIZE" 422), (.int 9223372036854775807 421)⟩, ⟨PyData.keyHash P "_is_int", (.str "_is_int" 430), (.ref 69)⟩, ⟨PyData.keyHash P "_pull", (.str "_pull" 437), (.ref 76)⟩, ⟨PyData.keyHash P "_same", (.str "_same" 445), (.ref 83)⟩, ⟨PyData.keyHash P "groupby", (.str "groupby" 536), (.ref 124)⟩, ⟨PyData.keyHash P "_grouper", (.str "_grouper" 590), (.ref 169)⟩, ⟨PyData.keyHash P "_count_kind", (.str "_count_kind" 598), (.ref 181)⟩, ⟨PyData.keyHash P "count", (.str "count" 663), (.ref 222)⟩, ⟨PyData.keyHash P "itemgetter", (.str "itemgetter" 721), (.ref 267)⟩, ⟨PyData.keyHash P "_rank", (.str "_rank" 750), (.ref 278)⟩, ⟨PyData.keyHash P "_sqrtprod", (.str "_sqrtprod" 761), (.ref 285)⟩, ⟨PyData.keyHash P "correlation", (.str "correlation" 769), (.ref 291)⟩, ⟨PyData.keyHash P "_law_unlike", (.str "_law_unlike" 780), (.ref 298)⟩, ⟨PyData.keyHash P "_law_asked", (.str "_law_asked" 795), (.ref 305)⟩, ⟨PyData.keyHash P "_law_wrong_way", (.str "_law_wrong_way" 805), (.ref 312)⟩, ⟨PyData.keyHash P "_law_found", (.str "_law_found" 811), (.ref 317)⟩, ⟨PyData.keyHash P "law", (.str "law" 817), (.ref 322)⟩] 33), #[]⟩) ::
  (nat_lit 43, ⟨(.type "tuple"), none, (.seq #[] 0), #[]⟩) ::
  (nat_lit 45, ⟨(.type "tuple"), none, (.seq #[(.str "k" 395)] 0), #[]⟩) ::
  (nat_lit 46, ⟨(.type "tuple"), none, (.seq #[] 0), #[]⟩) ::
  (nat_lit 48, ⟨(.type "code"), none, (.fields #[(.str "_wall" 392), (.str "_wall" 393), (.str "/claim/cut.py" 394), (.int 2 0), (.int 1 0), (.int 0 0), (.int 0 0), (.int 3 0), (.ref 43), (.bool true), (.int 386 0), (.ref 44), .none, (.ref 45), (.ref 46), (.ref 47), (.int 396 0), (.int 2 0), (.str "/claim/cut.py" 397)]), #[]⟩) ::
  (nat_lit 49, o49.1) ::
  (nat_lit 50, ⟨(.type "tuple"), none, (.seq #[(.type "ValueError")] 0), #[]⟩) ::
  (nat_lit 57, ⟨(.type "tuple"), none, (.seq #[] 0), #[]⟩) ::
  (nat_lit 58, ⟨(.type "dict"), none, (.dict #[⟨PyData.keyHash P "__module__", (.str "__module__" 408), (.str "cpy313.statistics" 399)⟩, ⟨PyData.keyHash P "__firstlineno__", (.str "__firstlineno__" 412), (.int 6 411)⟩, ⟨PyData.keyHash P "__static_attributes__", (.str "__static_attributes__" 413), (.ref 57)⟩, ⟨PyData.keyHash P "__weakref__", (.str "__weakref__" 415), (.ref 60)⟩, ⟨PyData.keyHash P "__doc__", (.str "__doc__" 416), .none⟩] 3), #[]⟩) ::
  (nat_lit 59, ⟨(.type "type"), none, (.cls ⟨"StatisticsError", [(.type "ValueError")], [(.ref 59), (.type "ValueError"), (.type "Exception"), (.type "BaseException"), (.type "object")], 58, "StatisticsError", true, [], [], false, none, false⟩), #[(some (.ref 50)), none, (some (.str "StatisticsError" 401)), (some (.str "StatisticsError" 409)), (some (.builtin "ValueError.__new__")), (some (.bool true))]⟩) ::
  (nat_lit 60, ⟨(.type "getset_descriptor"), none, (.fields #[(.str "__weakref__" 414), (.ref 59), (.builtin "ExceptionGroup.__weakref__"), .none]), #[]⟩) ::
  (nat_lit 63, ⟨(.type "tuple"), none, (.seq #[] 0), #[]⟩) ::
  (nat_lit 65, ⟨(.type "tuple"), none, (.seq #[(.str "x" 426), (.str "t" 427)] 0), #[]⟩) ::
  (nat_lit 66, ⟨(.type "tuple"), none, (.seq #[] 0), #[]⟩) ::
  (nat_lit 68, ⟨(.type "code"), none, (.fields #[(.str "_is_int" 423), (.str "_is_int" 424), (.str "/claim/cut.py" 425), (.int 10 0), (.int 1 0), (.int 0 0), (.int 0 0), (.int 3 0), (.ref 63), (.bool true), (.int 386 0), (.ref 64), .none, (.ref 65), (.ref 66), (.ref 67), (.int 428 0), (.int 10 0), (.str "/claim/cut.py" 429)]), #[]⟩) ::
  (nat_lit 69, o69.1) ::
  (nat_lit 70, ⟨(.type "tuple"), none, (.seq #[] 0), #[]⟩) ::
  (nat_lit 72, ⟨(.type "tuple"), none, (.seq #[(.str "it" 434)] 0), #[]⟩) ::
  (nat_lit 73, ⟨(.type "tuple"), none, (.seq #[] 0), #[]⟩) ::
  (nat_lit 75, ⟨(.type "code"), none, (.fields #[(.str "_pull" 431), (.str "_pull" 432), (.str "/claim/cut.py" 433), (.int 13 0), (.int 1 0), (.int 0 0), (.int 0 0), (.int 3 0), (.ref 70), (.bool true), (.int 386 0), (.ref 71), .none, (.ref 72), (.ref 73), (.ref 74), (.int 435 0), (.int 13 0), (.str "/claim/cut.py" 436)]), #[]⟩) ::
  (nat_lit 76, o76.1) ::
  (nat_lit 77, ⟨(.type "tuple"), none, (.seq #[] 0), #[]⟩) ::
  (nat_lit 79, ⟨(.type "tuple"), none, (.seq #[(.str "a" 441), (.str "b" 442)] 0), #[]⟩) ::
  (nat_lit 80, ⟨(.type "tuple"), none, (.seq #[] 0), #[]⟩) ::
  (nat_lit 82, ⟨(.type "code"), none, (.fields #[(.str "_same" 438), (.str "_same" 439), (.str "/claim/cut.py" 440), (.int 18 0), (.int 2 0), (.int 0 0), (.int 0 0), (.int 3 0), (.ref 77), (.bool true), (.int 386 0), (.ref 78), .none, (.ref 79), (.ref 80), (.ref 81), (.int 443 0), (.int 18 0), (.str "/claim/cut.py" 444)]), #[]⟩) ::
  (nat_lit 83, o83.1) ::
  (nat_lit 91, ⟨(.type "tuple"), none, (.seq #[(.str "_keyfunc" 458), (.str "_it" 459), (.str "_has_tgtkey" 460), (.str "_tgtkey" 461), (.str "_has_currkey" 462), (.str "_currkey" 463), (.str "_has_currvalue" 464), (.str "_currvalue" 465), (.str "_currgrouper" 466), (.str "_serial" 467)] 0), #[]⟩) ::
  (nat_lit 92, ⟨(.type "tuple"), none, (.seq #[.none] 0), #[]⟩) ::
  (nat_lit 93, ⟨(.type "tuple"), none, (.seq #[] 0), #[]⟩) ::
  (nat_lit 95, ⟨(.type "tuple"), none, (.seq #[(.str "self" 472), (.str "iterable" 473), (.str "key" 474)] 0), #[]⟩) ::
  (nat_lit 96, ⟨(.type "tuple"), none, (.seq #[] 0), #[]⟩) ::
  (nat_lit 98, ⟨(.type "code"), none, (.fields #[(.str "__init__" 469), (.str "groupby.__init__" 470), (.str "/claim/cut.py" 471), (.int 27 0), (.int 3 0), (.int 0 0), (.int 0 0), (.int 3 0), (.ref 93), (.bool true), (.int 386 0), (.ref 94), .none, (.ref 95), (.ref 96), (.ref 97), (.int 475 0), (.int 27 0), (.str "/claim/cut.py" 476)]), #[]⟩) ::
  (nat_lit 99, o99.1) ::
  (nat_lit 100, ⟨(.type "tuple"), none, (.seq #[] 0), #[]⟩) ::
  (nat_lit 102, ⟨(.type "tuple"), none, (.seq #[(.str "self" 481)] 0), #[]⟩) ::
  (nat_lit 103, ⟨(.type "tuple"), none, (.seq #[] 0), #[]⟩) ::
  (nat_lit 105, ⟨(.type "code"), none, (.fields #[(.str "__iter__" 478), (.str "groupby.__iter__" 479), (.str "/claim/cut.py" 480), (.int 39 0), (.int 1 0), (.int 0 0), (.int 0 0), (.int 3 0), (.ref 100), (.bool true), (.int 386 0), (.ref 101), .none, (.ref 102), (.ref 103), (.ref 104), (.int 482 0), (.int 39 0), (.str "/claim/cut.py" 483)]), #[]⟩) ::
  (nat_lit 106, o106.1) ::
  (nat_lit 107, ⟨(.type "tuple"), none, (.seq #[] 0), #[]⟩) ::
  (nat_lit 109, ⟨(.type "tuple"), none, (.seq #[(.str "self" 488), (.str "more" 489), (.str "newvalue" 490), (.str "newkey" 491)] 0), #[]⟩) ::
  (nat_lit 110, ⟨(.type "tuple"), none, (.seq #[] 0), #[]⟩) ::
  (nat_lit 112, ⟨(.type "code"), none, (.fields #[(.str "_step" 485), (.str "groupby._step" 486), (.str "/claim/cut.py" 487), (.int 42 0), (.int 1 0), (.int 0 0), (.int 0 0), (.int 3 0), (.ref 107), (.bool true), (.int 386 0), (.ref 108), .none, (.ref 109), (.ref 110), (.ref 111), (.int 492 0), (.int 42 0), (.str "/claim/cut.py" 493)]), #[]⟩) ::
  (nat_lit 113, o113.1) ::
  (nat_lit 114, ⟨(.type "tuple"), none, (.seq #[] 0), #[]⟩) ::
  (nat_lit 116, ⟨(.type "tuple"), none, (.seq #[(.str "self" 498), (.str "grouper" 499)] 0), #[]⟩) ::
  (nat_lit 117, ⟨(.type "tuple"), none, (.seq #[] 0), #[]⟩) ::
  (nat_lit 119, ⟨(.type "code"), none, (.fields #[(.str "__next__" 495), (.str "groupby.__next__" 496), (.str "/claim/cut.py" 497), (.int 55 0), (.int 1 0), (.int 0 0), (.int 0 0), (.int 3 0), (.ref 114), (.bool true), (.int 386 0), (.ref 115), .none, (.ref 116), (.ref 117), (.ref 118), (.int 500 0), (.int 55 0), (.str "/claim/cut.py" 501)]), #[]⟩) ::
  (nat_lit 120, o120.1) ::
  (nat_lit 121, ⟨(.type "tuple"), none, (.seq #[(.str "_currgrouper" 503), (.str "_currkey" 504), (.str "_currvalue" 505), (.str "_has_currkey" 506), (.str "_has_currvalue" 507), (.str "_has_tgtkey" 508), (.str "_it" 509), (.str "_keyfunc" 510), (.str "_serial" 511), (.str "_tgtkey" 512)] 0), #[]⟩) ::
  (nat_lit 123, ⟨(.type "dict"), none, (.dict #[⟨PyData.keyHash P "__module__", (.str "__module__" 453), (.str "itertools" 419)⟩, ⟨PyData.keyHash P "__firstlineno__", (.str "__firstlineno__" 457), (.int 24 456)⟩, ⟨PyData.keyHash P "__slots__", (.str "__slots__" 468), (.ref 91)⟩, ⟨PyData.keyHash P "__init__", (.str "__init__" 477), (.ref 99)⟩, ⟨PyData.keyHash P "__iter__", (.str "__iter__" 484), (.ref 106)⟩, ⟨PyData.keyHash P "_step", (.str "_step" 494), (.ref 113)⟩, ⟨PyData.keyHash P "__next__", (.str "__next__" 502), (.ref 120)⟩, ⟨PyData.keyHash P "__static_attributes__", (.str "__static_attributes__" 513), (.ref 121)⟩, ⟨PyData.keyHash P "_currgrouper", (.str "_currgrouper" 515), (.ref 125)⟩, ⟨PyData.keyHash P "_currkey", (.str "_currkey" 517), (.ref 126)⟩, ⟨PyData.keyHash P "_currvalue", (.str "_currvalue" 519), (.ref 127)⟩, ⟨PyData.keyHash P "_has_currkey", (.str "_has_currkey" 521), (.ref 128)⟩, ⟨PyData.keyHash P "_has_currvalue", (.str "_has_currvalue" 523), (.ref 129)⟩, ⟨PyData.keyHash P "_has_tgtkey", (.str "_has_tgtkey" 525), (.ref 130)⟩, ⟨PyData.keyHash P "_it", (.str "_it" 527), (.ref 131)⟩, ⟨PyData.keyHash P "_keyfunc", (.str "_keyfunc" 529), (.ref 132)⟩, ⟨PyData.keyHash P "_serial", (.str "_serial" 531), (.ref 133)⟩, ⟨PyData.keyHash P "_tgtkey", (.str "_tgtkey" 533), (.ref 134)⟩, ⟨PyData.keyHash P "__doc__", (.str "__doc__" 534), .none⟩] 12), #[]⟩) ::
  (nat_lit 124, ⟨(.type "type"), none, (.cls ⟨"groupby", [(.type "object")], [(.ref 124), (.type "object")], 123, "groupby", false, ["_currgrouper", "_currkey", "_currvalue", "_has_currkey", "_has_currvalue", "_has_tgtkey", "_it", "_keyfunc", "_serial", "_tgtkey"], [], false, none, false⟩), #[none, none, (some (.str "groupby" 446)), (some (.str "groupby" 454)), (some (.builtin "object.__new__")), (some (.bool false))]⟩) ::
  (nat_lit 125, ⟨(.type "member_descriptor"), none, (.fields #[(.str "_currgrouper" 514), (.ref 124), (.builtin "proto.slot"), (.builtin "proto.slot#set"), (.int 9 0)]), #[]⟩) ::
  (nat_lit 126, ⟨(.type "member_descriptor"), none, (.fields #[(.str "_currkey" 516), (.ref 124), (.builtin "proto.slot"), (.builtin "proto.slot#set"), (.int 8 0)]), #[]⟩) ::
  (nat_lit 127, ⟨(.type "member_descriptor"), none, (.fields #[(.str "_currvalue" 518), (.ref 124), (.builtin "proto.slot"), (.builtin "proto.slot#set"), (.int 7 0)]), #[]⟩) ::
  (nat_lit 128, ⟨(.type "member_descriptor"), none, (.fields #[(.str "_has_currkey" 520), (.ref 124), (.builtin "proto.slot"), (.builtin "proto.slot#set"), (.int 6 0)]), #[]⟩) ::
  (nat_lit 129, ⟨(.type "member_descriptor"), none, (.fields #[(.str "_has_currvalue" 522), (.ref 124), (.builtin "proto.slot"), (.builtin "proto.slot#set"), (.int 5 0)]), #[]⟩) ::
  (nat_lit 130, ⟨(.type "member_descriptor"), none, (.fields #[(.str "_has_tgtkey" 524), (.ref 124), (.builtin "proto.slot"), (.builtin "proto.slot#set"), (.int 4 0)]), #[]⟩) ::
  (nat_lit 131, ⟨(.type "member_descriptor"), none, (.fields #[(.str "_it" 526), (.ref 124), (.builtin "proto.slot"), (.builtin "proto.slot#set"), (.int 3 0)]), #[]⟩) ::
  (nat_lit 132, ⟨(.type "member_descriptor"), none, (.fields #[(.str "_keyfunc" 528), (.ref 124), (.builtin "proto.slot"), (.builtin "proto.slot#set"), (.int 2 0)]), #[]⟩) ::
  (nat_lit 133, ⟨(.type "member_descriptor"), none, (.fields #[(.str "_serial" 530), (.ref 124), (.builtin "proto.slot"), (.builtin "proto.slot#set"), (.int 1 0)]), #[]⟩) ::
  (nat_lit 134, ⟨(.type "member_descriptor"), none, (.fields #[(.str "_tgtkey" 532), (.ref 124), (.builtin "proto.slot"), (.builtin "proto.slot#set"), (.int 0 0)]), #[]⟩) ::
  (nat_lit 144, ⟨(.type "tuple"), none, (.seq #[(.str "_parent" 549), (.str "_tgtkey" 550), (.str "_number" 551)] 0), #[]⟩) ::
  (nat_lit 145, ⟨(.type "tuple"), none, (.seq #[] 0), #[]⟩) ::
  (nat_lit 147, ⟨(.type "tuple"), none, (.seq #[(.str "self" 556), (.str "parent" 557), (.str "tgtkey" 558)] 0), #[]⟩) ::
  (nat_lit 148, ⟨(.type "tuple"), none, (.seq #[] 0), #[]⟩) ::
  (nat_lit 150, ⟨(.type "code"), none, (.fields #[(.str "__init__" 553), (.str "_grouper.__init__" 554), (.str "/claim/cut.py" 555), (.int 71 0), (.int 3 0), (.int 3 0), (.int 0 0), (.int 3 0), (.ref 145), (.bool true), (.int 386 0), (.ref 146), .none, (.ref 147), (.ref 148), (.ref 149), (.int 559 0), (.int 71 0), (.str "/claim/cut.py" 560)]), #[]⟩) ::
  (nat_lit 151, o151.1) ::
  (nat_lit 152, ⟨(.type "tuple"), none, (.seq #[] 0), #[]⟩) ::
  (nat_lit 154, ⟨(.type "tuple"), none, (.seq #[(.str "self" 565)] 0), #[]⟩) ::
  (nat_lit 155, ⟨(.type "tuple"), none, (.seq #[] 0), #[]⟩) ::
  (nat_lit 157, ⟨(.type "code"), none, (.fields #[(.str "__iter__" 562), (.str "_grouper.__iter__" 563), (.str "/claim/cut.py" 564), (.int 80 0), (.int 1 0), (.int 0 0), (.int 0 0), (.int 3 0), (.ref 152), (.bool true), (.int 386 0), (.ref 153), .none, (.ref 154), (.ref 155), (.ref 156), (.int 566 0), (.int 80 0), (.str "/claim/cut.py" 567)]), #[]⟩) ::
  (nat_lit 158, o158.1) ::
  (nat_lit 159, ⟨(.type "tuple"), none, (.seq #[] 0), #[]⟩) ::
  (nat_lit 161, ⟨(.type "tuple"), none, (.seq #[(.str "self" 572), (.str "gbo" 573), (.str "r" 574)] 0), #[]⟩) ::
  (nat_lit 162, ⟨(.type "tuple"), none, (.seq #[] 0), #[]⟩) ::
  (nat_lit 164, ⟨(.type "code"), none, (.fields #[(.str "__next__" 569), (.str "_grouper.__next__" 570), (.str "/claim/cut.py" 571), (.int 83 0), (.int 1 0), (.int 0 0), (.int 0 0), (.int 3 0), (.ref 159), (.bool true), (.int 386 0), (.ref 160), .none, (.ref 161), (.ref 162), (.ref 163), (.int 575 0), (.int 83 0), (.str "/claim/cut.py" 576)]), #[]⟩) ::
  (nat_lit 165, o165.1) ::
  (nat_lit 166, ⟨(.type "tuple"), none, (.seq #[(.str "_number" 578), (.str "_parent" 579), (.str "_tgtkey" 580)] 0), #[]⟩) ::
  (nat_lit 168, ⟨(.type "dict"), none, (.dict #[⟨PyData.keyHash P "__module__", (.str "__module__" 544), (.str "itertools" 419)⟩, ⟨PyData.keyHash P "__firstlineno__", (.str "__firstlineno__" 548), (.int 68 547)⟩, ⟨PyData.keyHash P "__slots__", (.str "__slots__" 552), (.ref 144)⟩, ⟨PyData.keyHash P "__init__", (.str "__init__" 561), (.ref 151)⟩, ⟨PyData.keyHash P "__iter__", (.str "__iter__" 568), (.ref 158)⟩, ⟨PyData.keyHash P "__next__", (.str "__next__" 577), (.ref 165)⟩, ⟨PyData.keyHash P "__static_attributes__", (.str "__static_attributes__" 581), (.ref 166)⟩, ⟨PyData.keyHash P "_number", (.str "_number" 583), (.ref 170)⟩, ⟨PyData.keyHash P "_parent", (.str "_parent" 585), (.ref 171)⟩, ⟨PyData.keyHash P "_tgtkey", (.str "_tgtkey" 587), (.ref 172)⟩, ⟨PyData.keyHash P "__doc__", (.str "__doc__" 588), .none⟩] 5), #[]⟩) ::
  (nat_lit 169, ⟨(.type "type"), none, (.cls ⟨"_grouper", [(.type "object")], [(.ref 169), (.type "object")], 168, "_grouper", false, ["_number", "_parent", "_tgtkey"], [], false, none, false⟩), #[none, none, (some (.str "_grouper" 537)), (some (.str "_grouper" 545)), (some (.builtin "object.__new__")), (some (.bool false))]⟩) ::
  (nat_lit 170, ⟨(.type "member_descriptor"), none, (.fields #[(.str "_number" 582), (.ref 169), (.builtin "proto.slot"), (.builtin "proto.slot#set"), (.int 2 0)]), #[]⟩) ::
  (nat_lit 171, ⟨(.type "member_descriptor"), none, (.fields #[(.str "_parent" 584), (.ref 169), (.builtin "proto.slot"), (.builtin "proto.slot#set"), (.int 1 0)]), #[]⟩) ::
  (nat_lit 172, ⟨(.type "member_descriptor"), none, (.fields #[(.str "_tgtkey" 586), (.ref 169), (.builtin "proto.slot"), (.builtin "proto.slot#set"), (.int 0 0)]), #[]⟩) ::
  (nat_lit 175, ⟨(.type "tuple"), none, (.seq #[] 0), #[]⟩) ::
  (nat_lit 177, ⟨(.type "tuple"), none, (.seq #[(.str "x" 594), (.str "t" 595)] 0), #[]⟩) ::
  (nat_lit 178, ⟨(.type "tuple"), none, (.seq #[] 0), #[]⟩) ::
  (nat_lit 180, ⟨(.type "code"), none, (.fields #[(.str "_count_kind" 591), (.str "_count_kind" 592), (.str "/claim/cut.py" 593), (.int 97 0), (.int 1 0), (.int 0 0), (.int 0 0), (.int 3 0), (.ref 175), (.bool true), (.int 386 0), (.ref 176), .none, (.ref 177), (.ref 178), (.ref 179), (.int 596 0), (.int 97 0), (.str "/claim/cut.py" 597)]), #[]⟩) ::
  (nat_lit 181, o181.1) ::
  (nat_lit 189, ⟨(.type "tuple"), none, (.seq #[(.str "_fast" 611), (.str "_cnt" 612), (.str "_step" 613)] 0), #[]⟩) ::
  (nat_lit 190, ⟨(.type "tuple"), none, (.seq #[(.int 0 615), (.int 1 616)] 0), #[]⟩) ::
  (nat_lit 191, ⟨(.type "tuple"), none, (.seq #[] 0), #[]⟩) ::
  (nat_lit 193, ⟨(.type "tuple"), none, (.seq #[(.str "self" 620), (.str "start" 621), (.str "step" 622), (.str "k_start" 623), (.str "k_step" 624), (.str "fast" 625)] 0), #[]⟩) ::
  (nat_lit 194, ⟨(.type "tuple"), none, (.seq #[] 0), #[]⟩) ::
  (nat_lit 196, ⟨(.type "code"), none, (.fields #[(.str "__init__" 617), (.str "count.__init__" 618), (.str "/claim/cut.py" 619), (.int 109 0), (.int 3 0), (.int 0 0), (.int 0 0), (.int 3 0), (.ref 191), (.bool true), (.int 386 0), (.ref 192), .none, (.ref 193), (.ref 194), (.ref 195), (.int 626 0), (.int 109 0), (.str "/claim/cut.py" 627)]), #[]⟩) ::
  (nat_lit 197, o197.1) ::
  (nat_lit 198, ⟨(.type "tuple"), none, (.seq #[] 0), #[]⟩) ::
  (nat_lit 200, ⟨(.type "tuple"), none, (.seq #[(.str "self" 632)] 0), #[]⟩) ::
  (nat_lit 201, ⟨(.type "tuple"), none, (.seq #[] 0), #[]⟩) ::
  (nat_lit 203, ⟨(.type "code"), none, (.fields #[(.str "__iter__" 629), (.str "count.__iter__" 630), (.str "/claim/cut.py" 631), (.int 121 0), (.int 1 0), (.int 0 0), (.int 0 0), (.int 3 0), (.ref 198), (.bool true), (.int 386 0), (.ref 199), .none, (.ref 200), (.ref 201), (.ref 202), (.int 633 0), (.int 121 0), (.str "/claim/cut.py" 634)]), #[]⟩) ::
  (nat_lit 204, o204.1) ::
  (nat_lit 205, ⟨(.type "tuple"), none, (.seq #[] 0), #[]⟩) ::
  (nat_lit 207, ⟨(.type "tuple"), none, (.seq #[(.str "self" 639), (.str "value" 640)] 0), #[]⟩) ::
  (nat_lit 208, ⟨(.type "tuple"), none, (.seq #[] 0), #[]⟩) ::
  (nat_lit 210, ⟨(.type "code"), none, (.fields #[(.str "__next__" 636), (.str "count.__next__" 637), (.str "/claim/cut.py" 638), (.int 124 0), (.int 1 0), (.int 0 0), (.int 0 0), (.int 3 0), (.ref 205), (.bool true), (.int 386 0), (.ref 206), .none, (.ref 207), (.ref 208), (.ref 209), (.int 641 0), (.int 124 0), (.str "/claim/cut.py" 642)]), #[]⟩) ::
  (nat_lit 211, o211.1) ::
  (nat_lit 212, ⟨(.type "tuple"), none, (.seq #[] 0), #[]⟩) ::
  (nat_lit 214, ⟨(.type "tuple"), none, (.seq #[(.str "self" 647)] 0), #[]⟩) ::
  (nat_lit 215, ⟨(.type "tuple"), none, (.seq #[] 0), #[]⟩) ::
  (nat_lit 217, ⟨(.type "code"), none, (.fields #[(.str "__repr__" 644), (.str "count.__repr__" 645), (.str "/claim/cut.py" 646), (.int 129 0), (.int 1 0), (.int 0 0), (.int 0 0), (.int 3 0), (.ref 212), (.bool true), (.int 386 0), (.ref 213), .none, (.ref 214), (.ref 215), (.ref 216), (.int 648 0), (.int 129 0), (.str "/claim/cut.py" 649)]), #[]⟩) ::
  (nat_lit 218, o218.1) ::
  (nat_lit 219, ⟨(.type "tuple"), none, (.seq #[(.str "_cnt" 651), (.str "_fast" 652), (.str "_step" 653)] 0), #[]⟩) ::
  (nat_lit 221, ⟨(.type "dict"), none, (.dict #[⟨PyData.keyHash P "__module__", (.str "__module__" 606), (.str "itertools" 419)⟩, ⟨PyData.keyHash P "__firstlineno__", (.str "__firstlineno__" 610), (.int 106 609)⟩, ⟨PyData.keyHash P "__slots__", (.str "__slots__" 614), (.ref 189)⟩, ⟨PyData.keyHash P "__init__", (.str "__init__" 628), (.ref 197)⟩, ⟨PyData.keyHash P "__iter__", (.str "__iter__" 635), (.ref 204)⟩, ⟨PyData.keyHash P "__next__", (.str "__next__" 643), (.ref 211)⟩, ⟨PyData.keyHash P "__repr__", (.str "__repr__" 650), (.ref 218)⟩, ⟨PyData.keyHash P "__static_attributes__", (.str "__static_attributes__" 654), (.ref 219)⟩, ⟨PyData.keyHash P "_cnt", (.str "_cnt" 656), (.ref 223)⟩, ⟨PyData.keyHash P "_fast", (.str "_fast" 658), (.ref 224)⟩, ⟨PyData.keyHash P "_step", (.str "_step" 660), (.ref 225)⟩, ⟨PyData.keyHash P "__doc__", (.str "__doc__" 661), .none⟩] 5), #[]⟩) ::
  (nat_lit 222, ⟨(.type "type"), none, (.cls ⟨"count", [(.type "object")], [(.ref 222), (.type "object")], 221, "count", false, ["_cnt", "_fast", "_step"], [], false, none, false⟩), #[none, none, (some (.str "count" 599)), (some (.str "count" 607)), (some (.builtin "object.__new__")), (some (.bool false))]⟩) ::
  (nat_lit 223, ⟨(.type "member_descriptor"), none, (.fields #[(.str "_cnt" 655), (.ref 222), (.builtin "proto.slot"), (.builtin "proto.slot#set"), (.int 2 0)]), #[]⟩) ::
  (nat_lit 224, ⟨(.type "member_descriptor"), none, (.fields #[(.str "_fast" 657), (.ref 222), (.builtin "proto.slot"), (.builtin "proto.slot#set"), (.int 1 0)]), #[]⟩) ::
  (nat_lit 225, ⟨(.type "member_descriptor"), none, (.fields #[(.str "_step" 659), (.ref 222), (.builtin "proto.slot"), (.builtin "proto.slot#set"), (.int 0 0)]), #[]⟩) ::
  (nat_lit 235, ⟨(.type "tuple"), none, (.seq #[(.str "_items" 678)] 0), #[]⟩) ::
  (nat_lit 236, ⟨(.type "tuple"), none, (.seq #[] 0), #[]⟩) ::
  (nat_lit 238, ⟨(.type "tuple"), none, (.seq #[(.str "self" 683), (.str "item" 684), (.str "items" 685)] 0), #[]⟩) ::
  (nat_lit 239, ⟨(.type "tuple"), none, (.seq #[] 0), #[]⟩) ::
  (nat_lit 241, ⟨(.type "code"), none, (.fields #[(.str "__init__" 680), (.str "itemgetter.__init__" 681), (.str "/claim/cut.py" 682), (.int 137 0), (.int 2 0), (.int 2 0), (.int 0 0), (.int 7 0), (.ref 236), (.bool true), (.int 386 0), (.ref 237), .none, (.ref 238), (.ref 239), (.ref 240), (.int 686 0), (.int 137 0), (.str "/claim/cut.py" 687)]), #[]⟩) ::
  (nat_lit 242, o242.1) ::
  (nat_lit 243, ⟨(.type "tuple"), none, (.seq #[] 0), #[]⟩) ::
  (nat_lit 245, ⟨(.type "tuple"), none, (.seq #[(.str "self" 692), (.str "obj" 693), (.str "items" 694), (.str "result" 695), (.str "item" 696)] 0), #[]⟩) ::
  (nat_lit 246, ⟨(.type "tuple"), none, (.seq #[] 0), #[]⟩) ::
  (nat_lit 248, ⟨(.type "code"), none, (.fields #[(.str "__call__" 689), (.str "itemgetter.__call__" 690), (.str "/claim/cut.py" 691), (.int 140 0), (.int 2 0), (.int 2 0), (.int 0 0), (.int 3 0), (.ref 243), (.bool true), (.int 386 0), (.ref 244), .none, (.ref 245), (.ref 246), (.ref 247), (.int 697 0), (.int 140 0), (.str "/claim/cut.py" 698)]), #[]⟩) ::
  (nat_lit 249, o249.1) ::
  (nat_lit 250, ⟨(.type "tuple"), none, (.seq #[] 0), #[]⟩) ::
  (nat_lit 252, ⟨(.type "tuple"), none, (.seq #[(.str "self" 703), (.str "r" 704)] 0), #[]⟩) ::
  (nat_lit 253, ⟨(.type "tuple"), none, (.seq #[] 0), #[]⟩) ::
  (nat_lit 255, ⟨(.type "code"), none, (.fields #[(.str "__repr__" 700), (.str "itemgetter.__repr__" 701), (.str "/claim/cut.py" 702), (.int 149 0), (.int 1 0), (.int 0 0), (.int 0 0), (.int 3 0), (.ref 250), (.bool true), (.int 386 0), (.ref 251), .none, (.ref 252), (.ref 253), (.ref 254), (.int 705 0), (.int 149 0), (.str "/claim/cut.py" 706)]), #[]⟩) ::
  (nat_lit 256, o256.1) ::
  (nat_lit 257, ⟨(.type "tuple"), none, (.seq #[] 0), #[]⟩) ::
  (nat_lit 259, ⟨(.type "tuple"), none, (.seq #[(.str "self" 711)] 0), #[]⟩) ::
  (nat_lit 260, ⟨(.type "tuple"), none, (.seq #[] 0), #[]⟩) ::
  (nat_lit 262, ⟨(.type "code"), none, (.fields #[(.str "__reduce__" 708), (.str "itemgetter.__reduce__" 709), (.str "/claim/cut.py" 710), (.int 155 0), (.int 1 0), (.int 0 0), (.int 0 0), (.int 3 0), (.ref 257), (.bool true), (.int 386 0), (.ref 258), .none, (.ref 259), (.ref 260), (.ref 261), (.int 712 0), (.int 155 0), (.str "/claim/cut.py" 713)]), #[]⟩) ::
  (nat_lit 263, o263.1) ::
  (nat_lit 264, ⟨(.type "tuple"), none, (.seq #[(.str "_items" 715)] 0), #[]⟩) ::
  (nat_lit 266, ⟨(.type "dict"), none, (.dict #[⟨PyData.keyHash P "__module__", (.str "__module__" 673), (.str "operator" 664)⟩, ⟨PyData.keyHash P "__firstlineno__", (.str "__firstlineno__" 677), (.int 134 676)⟩, ⟨PyData.keyHash P "__slots__", (.str "__slots__" 679), (.ref 235)⟩, ⟨PyData.keyHash P "__init__", (.str "__init__" 688), (.ref 242)⟩, ⟨PyData.keyHash P "__call__", (.str "__call__" 699), (.ref 249)⟩, ⟨PyData.keyHash P "__repr__", (.str "__repr__" 707), (.ref 256)⟩, ⟨PyData.keyHash P "__reduce__", (.str "__reduce__" 714), (.ref 263)⟩, ⟨PyData.keyHash P "__static_attributes__", (.str "__static_attributes__" 716), (.ref 264)⟩, ⟨PyData.keyHash P "_items", (.str "_items" 718), (.ref 268)⟩, ⟨PyData.keyHash P "__doc__", (.str "__doc__" 719), .none⟩] 3), #[]⟩) ::
  (nat_lit 267, ⟨(.type "type"), none, (.cls ⟨"itemgetter", [(.type "object")], [(.ref 267), (.type "object")], 266, "itemgetter", false, ["_items"], [], false, none, false⟩), #[none, none, (some (.str "itemgetter" 666)), (some (.str "itemgetter" 674)), (some (.builtin "object.__new__")), (some (.bool false))]⟩) ::
  (nat_lit 268, ⟨(.type "member_descriptor"), none, (.fields #[(.str "_items" 717), (.ref 267), (.builtin "proto.slot"), (.builtin "proto.slot#set"), (.int 0 0)]), #[]⟩) ::
  (nat_lit 271, ⟨(.type "dict"), none, (.dict #[⟨PyData.keyHash P "key", (.str "key" 726), .none⟩, ⟨PyData.keyHash P "reverse", (.str "reverse" 727), (.bool false)⟩, ⟨PyData.keyHash P "ties", (.str "ties" 728), (.str "average" 724)⟩, ⟨PyData.keyHash P "start", (.str "start" 729), (.int 1 725)⟩] 4), #[]⟩) ::
  (nat_lit 272, ⟨(.type "tuple"), none, (.seq #[] 0), #[]⟩) ::
  (nat_lit 274, ⟨(.type "tuple"), none, (.seq #[(.str "data" 733), (.str "key" 734), (.str "reverse" 735), (.str "ties" 736), (.str "start" 737), (.str "val_pos" 738), (.str "i" 739), (.str "result" 740), (.str "_" 741), (.str "g" 742), (.str "group" 743), (.str "size" 744), (.str "rank" 745), (.str "value" 746), (.str "orig_pos" 747)] 0), #[]⟩) ::
  (nat_lit 275, ⟨(.type "tuple"), none, (.seq #[] 0), #[]⟩) ::
  (nat_lit 277, ⟨(.type "code"), none, (.fields #[(.str "_rank" 730), (.str "_rank" 731), (.str "/claim/cut.py" 732), (.int 160 0), (.int 1 0), (.int 1 0), (.int 4 0), (.int 3 0), (.ref 272), (.bool true), (.int 386 0), (.ref 273), .none, (.ref 274), (.ref 275), (.ref 276), (.int 748 0), (.int 160 0), (.str "/claim/cut.py" 749)]), #[]⟩) ::
  (nat_lit 278, o278.1) ::
  (nat_lit 279, ⟨(.type "tuple"), none, (.seq #[] 0), #[]⟩) ::
  (nat_lit 281, ⟨(.type "tuple"), none, (.seq #[(.str "x" 754), (.str "y" 755), (.str "h" 756), (.str "scale" 757), (.str "d" 758)] 0), #[]⟩) ::
  (nat_lit 282, ⟨(.type "tuple"), none, (.seq #[] 0), #[]⟩) ::
  (nat_lit 284, ⟨(.type "code"), none, (.fields #[(.str "_sqrtprod" 751), (.str "_sqrtprod" 752), (.str "/claim/cut.py" 753), (.int 176 0), (.int 2 0), (.int 0 0), (.int 0 0), (.int 3 0), (.ref 279), (.bool true), (.int 386 0), (.ref 280), .none, (.ref 281), (.ref 282), (.ref 283), (.int 759 0), (.int 176 0), (.str "/claim/cut.py" 760)]), #[]⟩) ::
  (nat_lit 285, o285.1) ::
  (nat_lit 286, ⟨(.type "dict"), none, (.dict #[⟨PyData.keyHash P "method", (.str "method" 763), (.str "linear" 762)⟩] 1), #[]⟩) ::
  (nat_lit 287, ⟨(.type "tuple"), none, (.seq #[] 0), #[]⟩) ::
  (nat_lit 290, ⟨(.type "code"), none, (.fields #[(.str "correlation" 764), (.str "correlation" 765), (.str "/claim/cut.py" 766), (.int 190 0), (.int 2 0), (.int 2 0), (.int 1 0), (.int 3 0), (.ref 287), (.bool true), (.int 386 0), (.ref 288), .none, .none, .none, (.ref 289), (.int 767 0), (.int 190 0), (.str "/claim/cut.py" 768)]), #[]⟩) ::
  (nat_lit 291, o291.1) ::
  (nat_lit 292, ⟨(.type "tuple"), none, (.seq #[] 0), #[]⟩) ::
  (nat_lit 294, ⟨(.type "tuple"), none, (.seq #[(.str "things" 775), (.str "row" 776), (.str "thing" 777)] 0), #[]⟩) ::
  (nat_lit 295, ⟨(.type "tuple"), none, (.seq #[] 0), #[]⟩) ::
  (nat_lit 297, ⟨(.type "code"), none, (.fields #[(.str "_law_unlike" 772), (.str "_law_unlike" 773), (.str "/claim/cut.py" 774), (.int 215 0), (.int 1 0), (.int 0 0), (.int 0 0), (.int 3 0), (.ref 292), (.bool true), (.int 386 0), (.ref 293), .none, (.ref 294), (.ref 295), (.ref 296), (.int 778 0), (.int 215 0), (.str "/claim/cut.py" 779)]), #[]⟩) ::
  (nat_lit 298, o298.1) ::
  (nat_lit 299, ⟨(.type "tuple"), none, (.seq #[] 0), #[]⟩) ::
  (nat_lit 301, ⟨(.type "tuple"), none, (.seq #[(.str "question" 784), (.str "hidden" 785), (.str "sixth" 786), (.str "x" 787), (.str "y" 788), (.str "told" 789), (.str "a" 790), (.str "b" 791), (.str "whole" 792)] 0), #[]⟩) ::
  (nat_lit 302, ⟨(.type "tuple"), none, (.seq #[] 0), #[]⟩) ::
  (nat_lit 304, ⟨(.type "code"), none, (.fields #[(.str "_law_asked" 781), (.str "_law_asked" 782), (.str "/claim/cut.py" 783), (.int 221 0), (.int 3 0), (.int 0 0), (.int 0 0), (.int 3 0), (.ref 299), (.bool true), (.int 386 0), (.ref 300), .none, (.ref 301), (.ref 302), (.ref 303), (.int 793 0), (.int 221 0), (.str "/claim/cut.py" 794)]), #[]⟩) ::
  (nat_lit 305, o305.1) ::
  (nat_lit 306, ⟨(.type "tuple"), none, (.seq #[] 0), #[]⟩) ::
  (nat_lit 308, ⟨(.type "tuple"), none, (.seq #[(.str "hidden" 799), (.str "apart" 800), (.str "i" 801), (.str "j" 802)] 0), #[]⟩) ::
  (nat_lit 309, ⟨(.type "tuple"), none, (.seq #[] 0), #[]⟩) ::
  (nat_lit 311, ⟨(.type "code"), none, (.fields #[(.str "_law_wrong_way" 796), (.str "_law_wrong_way" 797), (.str "/claim/cut.py" 798), (.int 229 0), (.int 1 0), (.int 0 0), (.int 0 0), (.int 3 0), (.ref 306), (.bool true), (.int 386 0), (.ref 307), .none, (.ref 308), (.ref 309), (.ref 310), (.int 803 0), (.int 229 0), (.str "/claim/cut.py" 804)]), #[]⟩) ::
  (nat_lit 312, o312.1) ::
  (nat_lit 313, ⟨(.type "tuple"), none, (.seq #[] 0), #[]⟩) ::
  (nat_lit 316, ⟨(.type "code"), none, (.fields #[(.str "_law_found" 806), (.str "_law_found" 807), (.str "/claim/cut.py" 808), (.int 236 0), (.int 1 0), (.int 0 0), (.int 0 0), (.int 3 0), (.ref 313), (.bool true), (.int 386 0), (.ref 314), .none, .none, .none, (.ref 315), (.int 809 0), (.int 236 0), (.str "/claim/cut.py" 810)]), #[]⟩) ::
  (nat_lit 317, o317.1) ::
  (nat_lit 318, ⟨(.type "tuple"), none, (.seq #[] 0), #[]⟩) ::
  (nat_lit 321, ⟨(.type "code"), none, (.fields #[(.str "law" 812), (.str "law" 813), (.str "/claim/cut.py" 814), (.int 251 0), (.int 1 0), (.int 0 0), (.int 0 0), (.int 3 0), (.ref 318), (.bool true), (.int 386 0), (.ref 319), .none, .none, .none, (.ref 320), (.int 815 0), (.int 251 0), (.str "/claim/cut.py" 816)]), #[]⟩) ::
  (nat_lit 322, o322.1) :: []
noncomputable def hdPick : List Bool → List Stmt → List Stmt
  | true :: r, s :: l => s :: hdPick r l
  | false :: r, _ :: l => hdPick r l
  | _, _ => []
noncomputable def hdKept : { x : List Stmt // hdPick [true, true, false, true, false, true, true, true, true, true, true, true, true, false, true, false, false, true, false, false, true, true, true, true, true] PySem.Challenge.rw_kp0017_01.prog.main.body = x } := ⟨[_, _, _, _, _, _, _, _, _, _, _, _, _, _, _, _, _, _], rfl⟩
noncomputable def hd.view_39 : Program := { PySem.Challenge.rw_kp0017_01.prog with main := { PySem.Challenge.rw_kp0017_01.prog.main with body := hdKept.1 } }
noncomputable def hd.hook : Hook := kHook hd.heap_39 [nat_lit 3, nat_lit 43, nat_lit 45, nat_lit 46, nat_lit 48, nat_lit 49, nat_lit 50, nat_lit 57, nat_lit 58, nat_lit 59, nat_lit 60, nat_lit 63, nat_lit 65, nat_lit 66, nat_lit 68, nat_lit 69, nat_lit 70, nat_lit 72, nat_lit 73, nat_lit 75, nat_lit 76, nat_lit 77, nat_lit 79, nat_lit 80, nat_lit 82, nat_lit 83, nat_lit 91, nat_lit 92, nat_lit 93, nat_lit 95, nat_lit 96, nat_lit 98, nat_lit 99, nat_lit 100, nat_lit 102, nat_lit 103, nat_lit 105, nat_lit 106, nat_lit 107, nat_lit 109, nat_lit 110, nat_lit 112, nat_lit 113, nat_lit 114, nat_lit 116, nat_lit 117, nat_lit 119, nat_lit 120, nat_lit 121, nat_lit 123, nat_lit 124, nat_lit 125, nat_lit 126, nat_lit 127, nat_lit 128, nat_lit 129, nat_lit 130, nat_lit 131, nat_lit 132, nat_lit 133, nat_lit 134, nat_lit 144, nat_lit 145, nat_lit 147, nat_lit 148, nat_lit 150, nat_lit 151, nat_lit 152, nat_lit 154, nat_lit 155, nat_lit 157, nat_lit 158, nat_lit 159, nat_lit 161, nat_lit 162, nat_lit 164, nat_lit 165, nat_lit 166, nat_lit 168, nat_lit 169, nat_lit 170, nat_lit 171, nat_lit 172, nat_lit 175, nat_lit 177, nat_lit 178, nat_lit 180, nat_lit 181, nat_lit 189, nat_lit 190, nat_lit 191, nat_lit 193, nat_lit 194, nat_lit 196, nat_lit 197, nat_lit 198, nat_lit 200, nat_lit 201, nat_lit 203, nat_lit 204, nat_lit 205, nat_lit 207, nat_lit 208, nat_lit 210, nat_lit 211, nat_lit 212, nat_lit 214, nat_lit 215, nat_lit 217, nat_lit 218, nat_lit 219, nat_lit 221, nat_lit 222, nat_lit 223, nat_lit 224, nat_lit 225, nat_lit 235, nat_lit 236, nat_lit 238, nat_lit 239, nat_lit 241, nat_lit 242, nat_lit 243, nat_lit 245, nat_lit 246, nat_lit 248, nat_lit 249, nat_lit 250, nat_lit 252, nat_lit 253, nat_lit 255, nat_lit 256, nat_lit 257, nat_lit 259, nat_lit 260, nat_lit 262, nat_lit 263, nat_lit 264, nat_lit 266, nat_lit 267, nat_lit 268, nat_lit 271, nat_lit 272, nat_lit 274, nat_lit 275, nat_lit 277, nat_lit 278, nat_lit 279, nat_lit 281, nat_lit 282, nat_lit 284, nat_lit 285, nat_lit 286, nat_lit 287, nat_lit 290, nat_lit 291, nat_lit 292, nat_lit 294, nat_lit 295, nat_lit 297, nat_lit 298, nat_lit 299, nat_lit 301, nat_lit 302, nat_lit 304, nat_lit 305, nat_lit 306, nat_lit 308, nat_lit 309, nat_lit 311, nat_lit 312, nat_lit 313, nat_lit 316, nat_lit 317, nat_lit 318, nat_lit 321, nat_lit 322] (fun _ => by kernel_rfl)
/-- the run over a heap laid as a tree -/
noncomputable def runT (ok : Thread → Bool) (st : SharedT → Thread → Option (SharedT × Thread)) : Nat → SharedT → Thread → Option SharedT
  | 0, _, _ => none
  | n + 1, s, t => match through t with
    | true => some s
    | false => match ok t with
      | false => none
      | true => match st s t with
        | some (s', t') => runT ok st n s' t'
        | none => none
theorem runT_of {tb : String → Option Builtin} {p : Program} {w : World} {n₀ : Nat} {ann : Option Value} : ∀ (n : Nat) (s s' : SharedT) (t : Thread), runT (stepOk n₀ ann) (stepT (denote tb) p w) n s t = some s' → topRun tb p w n₀ ann n s.abs t = some s'.abs
  | 0, _, _, _, h => by cases h
  | n + 1, s, s', t, h => by
    unfold runT at h
    unfold topRun
    cases ht : through t with
    | true => rw [ht] at h; cases h; rfl
    | false =>
      rw [ht] at h
      cases hk : stepOk n₀ ann t with
      | false => rw [hk] at h; cases h
      | true =>
        rw [hk] at h
        cases hs : stepT (denote tb) p w s t with
        | none => rw [hs] at h; cases h
        | some r => obtain ⟨s₂, t₂⟩ := r; rw [hs] at h; rw [stepT_spec hs]; exact runT_of n s₂ s' t₂ h
noncomputable def treeOf : List Obj → Nat → BT → Option BT
  | [], _, T => some T
  | o :: l, n, T => match ((T.ins n o).get n).isSome with
    | true => treeOf l (n + 1) (T.ins n o)
    | false => none
theorem treeOf_at {life : Life} : ∀ (l : List Obj) (n : Nat) (T T' : BT), treeOf l n T = some T' → absHeap T' (n + l.length) life = ⟨((absHeap T n life).objs.toList ++ l).toArray, life⟩
  | [], n, T, T', h => by cases h; simp; rfl
  | o :: l, n, T, T', h => by
    unfold treeOf at h
    cases hg : ((T.ins n o).get n).isSome with
    | false => rw [hg] at h; cases h
    | true =>
      rw [hg] at h
      have e := treeOf_at (life := life) l (n + 1) _ _ h
      rw [absHeap_ins hg] at e
      rw [List.length_cons, show n + (l.length + 1) = n + 1 + l.length from (Nat.add_right_comm n l.length 1).trans rfl, e]
      show Heap.mk (((absHeap T n life).objs.push o).toList ++ l).toArray life = _
      rw [Array.toList_push, List.append_assoc]
      rfl
theorem treeOf_heap {h : Heap} {T : BT} (e : treeOf h.objs.toList 0 .nil = some T) : absHeap T h.objs.toList.length h.life = h := by
  have := treeOf_at (life := h.life) _ 0 _ _ e
  rw [Nat.zero_add] at this
  rw [this]
  rfl
/-- the heap's list laid out, object by object, before what asks it -/
noncomputable def laidL : List Obj → (List Obj → Option Shared) → Option Shared
  | [], k => k []
  | ⟨c, d, a, sl⟩ :: l, k => laidL l fun l' => k (⟨c, d, a, sl⟩ :: l')
theorem laidL_eq : ∀ (l : List Obj) (k : List Obj → Option Shared), laidL l k = k l
  | [], _ => rfl
  | ⟨_, _, _, _⟩ :: l, k => laidL_eq l _
noncomputable def laidS (s : Shared) (k : Shared → Option Shared) : Option Shared := laidL s.heap.objs.toList fun l => k ⟨⟨l.toArray, s.heap.life⟩, s.gens, s.drawn, s.toks, s.os⟩
theorem laidS_eq (s : Shared) (k : Shared → Option Shared) : laidS s k = k s := laidL_eq _ _
noncomputable def asTree (s : Shared) : Option SharedT := (treeOf s.heap.objs.toList 0 .nil).map fun T => ⟨T, s.heap.objs.toList.length, s.heap.life, s.gens, s.drawn, s.toks, s.os⟩
theorem asTree_abs {s : Shared} {t : SharedT} (h : asTree s = some t) : t.abs = s := by
  obtain ⟨T, hT, rfl⟩ := Option.map_eq_some_iff.mp h
  show Shared.mk (absHeap T _ _) _ _ _ _ = _
  rw [treeOf_heap hT]
noncomputable def runI (st : SharedT → Thread → Option (SharedT × Thread)) : Nat → SharedT → Thread → Option SharedT
  | 0, _, _ => none
  | n + 1, s, t => match t.atExitBegin with
    | some [] => some s
    | some (_ :: _) => none
    | none => match st s t with
      | some (s', t') => runI st n s' t'
      | none => none
theorem runI_of {tb : String → Option Builtin} {p : Program} {w : World} : ∀ (n : Nat) (s s' : SharedT) (t : Thread), runI (stepT (denote tb) p w) n s t = some s' → importEnds tb p w n s.abs t = some s'.abs
  | 0, _, _, _, h => by cases h
  | n + 1, s, s', t, h => by
    unfold runI at h
    unfold importEnds
    rcases ht : t.atExitBegin with _ | _ | _
    · rw [ht] at h
      dsimp only at h ⊢
      cases hs : stepT (denote tb) p w s t with
      | none => rw [hs] at h; cases h
      | some r => obtain ⟨s₂, t₂⟩ := r; rw [hs] at h; rw [stepT_spec hs]; exact runI_of n s₂ s' t₂ h
    · rw [ht] at h; cases h; rfl
    · rw [ht] at h; cases h
noncomputable def tOpen (p : Program) (w : World) (N : Nat) : Option Shared :=
  (asTree (PySem.W.Fast.tw1435165496053646825 (opening p)).1).bind fun s => (runI (PySem.W.Fast.tw10156331382660048174 (PySem.W.Fast.tw11892475500146522536 PySem.W.Fast.tw14364793385576792824) (opening p) w) N s (PySem.W.Fast.tw1435165496053646825 (opening p)).2).bind fun s => laidS s.abs (PySem.W.Fast.tw14289696077712309145 p)
theorem tOpen_of {p : Program} {w : World} {N : Nat} {s : Shared} (h : tOpen p w N = some s) : fencedOpening treeTable p w N = some s := by
  unfold tOpen at h
  rw [← PySem.W.Fast.te10156331382660048174, ← PySem.W.Fast.te11892475500146522536, ← PySem.W.Fast.te14364793385576792824, ← PySem.W.Fast.te1435165496053646825, ← PySem.W.Fast.te14289696077712309145] at h
  obtain ⟨t, h0, h1⟩ := Option.bind_eq_some_iff.mp h
  obtain ⟨t', h2, h3⟩ := Option.bind_eq_some_iff.mp h1
  have e := runI_of _ _ _ _ h2
  rw [asTree_abs h0] at e
  rw [laidS_eq] at h3
  unfold fencedOpening
  rw [e]
  exact h3
noncomputable def tTop (p : Program) (w : World) (N : Nat) (s₀ : Shared) : Option Shared :=
  match s₀.heap.isNs mainGlobals && s₀.gens.size == 0 with
  | true => (asTree s₀).bind fun t₀ => (runT (PySem.W.Fast.tw6613529449190102663 s₀.heap.objs.size (PySem.W.Fast.tw8920871248978507458 s₀.heap mainGlobals "__annotations__")) (PySem.W.Fast.tw10156331382660048174 (PySem.W.Fast.tw11892475500146522536 PySem.W.Fast.tw14364793385576792824) p w) N
        t₀ (topStub p)).bind fun s₁ => laidS s₁.abs fun s₁ => match staticsOk (importedModules p.main.body) s₀.heap s₁.heap && namesBound p s₁.heap && gensDone s₁ && laidKept s₀.heap s₁.heap with
      | true => some s₁
      | false => none
  | false => none
theorem tTop_of {p : Program} {w : World} {N : Nat} {s₀ s : Shared} (h : tTop p w N s₀ = some s) : topFrom treeTable p w N s₀ = some s := by
  unfold tTop at h
  rw [← PySem.W.Fast.te6613529449190102663, ← PySem.W.Fast.te8920871248978507458, ← PySem.W.Fast.te10156331382660048174, ← PySem.W.Fast.te11892475500146522536, ← PySem.W.Fast.te14364793385576792824] at h
  unfold topFrom
  cases hc : s₀.heap.isNs mainGlobals && s₀.gens.size == 0 with
  | false => rw [hc] at h; cases h
  | true =>
    rw [hc] at h
    dsimp only at h ⊢
    obtain ⟨t₀, h0, h⟩ := Option.bind_eq_some_iff.mp h
    obtain ⟨s₁, h1, h2⟩ := Option.bind_eq_some_iff.mp h
    have e := runT_of _ _ _ _ h1
    rw [asTree_abs h0] at e
    rw [laidS_eq] at h2
    rw [e]
    exact h2
noncomputable def tEnds (p : Program) (w : World) (N : Nat) : Option Shared := (tOpen p w N).bind fun s₀ => laidS s₀ (tTop p w N)
theorem tEnds_of {p : Program} {w : World} {N : Nat} {s : Shared} (h : tEnds p w N = some s) : openEnds treeTable p w N = some s := by
  obtain ⟨s₀, h0, h1⟩ := Option.bind_eq_some_iff.mp h
  rw [laidS_eq] at h1
  unfold openEnds
  rw [tOpen_of h0]
  exact tTop_of h1
theorem left_of {p q : Program} {loose : List Str} {Xt : Shared → Bool} {α : Type} {Yf : Shared → α} {Ya : World → α} {N : Nat} (h : ∀ w, (tEnds p w N).map (fun s => (PySem.W.Fast.tw4187177175401517315 q loose (importedModules p.main.body) Xt true s, Yf s)) = some (openGood q loose, Ya w)) : LeftO p q loose Xt Yf Ya N := fun w => by
  obtain ⟨s, hs, e⟩ := Option.map_eq_some_iff.mp (h w)
  rw [tEnds_of hs, PySem.W.Fast.te4187177175401517315]
  exact congrArg some e
/-- what the text's top leaves, checked at once -/
theorem hd.left : LeftO (RowW.prog (OpenRow.toRowW (OpenLaw.row PySem.Challenge.rw_kp0017_01))) hd.view_39 ["groupby", "_grouper", "count", "itemgetter", "_rank", "correlation"] (fun s => xlAt hd.view_39 [] s && recOk (RowW.records (OpenRow.toRowW (OpenLaw.row PySem.Challenge.rw_kp0017_01))) s) (fun s => (hd.hook.obs s, decide (0 < s.toks))) (fun w => (hd.hook.val w, true)) 4402 := by
  refine left_of fun w => ?_
  kernel_rfl
/-- the law is said as a law must be -/
theorem law_said : OpenLaw.wellSaid PySem.Challenge.rw_kp0017_01 = true := by
  rw [PySem.W.Fast.te9446332074065402090]
  kernel_rfl
end Mine
end

-- Ctx
section
open PySem PySem.W PySem.Calls PyProof.Rows
set_option maxRecDepth 100000
namespace Mine
abbrev PG : Program := RowW.prog (OpenRow.toRowW (OpenLaw.row PySem.Challenge.rw_kp0017_01))
abbrev litObj (l : Addr) (i : Int) : Obj := { cls := .type "list_iterator", data := .fields #[.ref l, .int i 0] }
abbrev litOver (i : Int) : Obj := { cls := .type "list_iterator", data := .fields #[.none, .int i 0] }
abbrev gbObj (d : Addr) (cg : Int) (tcg : Tok) (ck cv : Option Value) (hck hcv htk : Bool) (it kf : Value) (ser : Int) (tser : Tok) (tk : Option Value) : Obj :=
  { cls := .ref 124, dict := some d, data := .plain, slots := #[some (.int cg tcg), ck, cv, some (.bool hck), some (.bool hcv), some (.bool htk), some it, some kf, some (.int ser tser), tk] }
abbrev igObj (d t : Addr) : Obj := { cls := .ref 267, dict := some d, data := .plain, slots := #[some (.ref t)] }
abbrev grObj (d gb : Addr) (tk : Value) (num : Int) (tnum : Tok) : Obj := { cls := .ref 169, dict := some d, data := .plain, slots := #[some (.int num tnum), some (.ref gb), some tk] }
abbrev tup0 (t : Tok) : Obj := { cls := .type "tuple", data := .seq #[.int 0 t] }
abbrev kTop (dp un : Nat) (gd : Option (List Code)) (cn : Str) (cs : Scope) (L a : Addr) (ccd : Value) (outer : List Env) : Around := { handled := none, depth := dp, frames := some (envOf cn cs L a ccd :: outer), guards := gd, units := un }

/-- what a call stands in -/
structure At (w : World) (p : Program) (loose : List Str) (mean : ExcName → Option Value) (mg mb : Str → Option Value) (cs : Scope) (outer : List Env) (A₀ : Around) (base h₀ : Heap) (L : Addr) (m : Str → Option Value) (h : Heap) : Prop where
  B : Below A₀ base outer h₀
  F : Fr h₀ L h m
  X : (hd.heap_39 w.params).In h₀
  T : Top p loose mean mg mb h₀
  K : cs.kind = .function
  XB : (hd.heap_39 w.params).In base
  TB : Top p loose mean mg mb base
  D : KtsDicts (outer.filterMap (·.frame)) h₀

/-- the makes of a groupby stand apart -/
structure GbApart (gb dg itr ig di tu : Nat) : Prop where
  n1 : gb ≠ dg
  n2 : gb ≠ itr
  n3 : gb ≠ ig
  n4 : gb ≠ di
  n5 : gb ≠ tu
  n6 : itr ≠ dg
  n7 : itr ≠ ig
  n8 : itr ≠ di
  n9 : itr ≠ tu
end Mine
end

-- R1
section
open PySem PySem.W PySem.Calls PyProof.Rows
set_option maxRecDepth 100000
namespace Mine
section
variable {prog : Program} {w : World} {A : Around} {E : Value → Shared → Prop} {s : Shared} {h₀ : Heap} {L itr l : Addr} {m : Str → Option Value} {news news' : List (Addr × Obj)} {i : Nat} {items : Array Value}

abbrev litEnd : Obj := { cls := .type "list_iterator", data := .fields #[.none, .int 0 0] }

theorem lit_at {h : Heap} (e : h.get? itr = some (litObj l i)) : h.IsListIter itr l i := ⟨_, e, rfl, rfl⟩

theorem lit_special {x : Value} {Q : Option Value → Shared → Prop} (ho : s.heap.get? itr = some (litObj l i)) (hl : s.heap.IsList l items) (hx : items[i]? = some x)
    (hQ : ∀ h', h'.get? itr = some (litObj l ((i + 1 : Nat) : Int)) → Heap.SameBut itr s.heap h' → Q (some x) { s with heap := h' }) :
    wpAny (model prog w) A (callSpecial? (.ref itr) (Str.ofString "__next__")) Q E s := by
  obtain ⟨ol, hol, _, nl, hdl⟩ := hl
  refine wpAny_callSpecial?_slot (name := Str.ofString "__next__") (lit_at ho).typeIs slot_listiter_next
    (wpAny_call_entry slot_listiter_next (lit_at ho).typeIs entry_listiter_next ?_ (args_listiter_next _))
  show wpAny _ _ (field (.ref itr) 0 >>= _) _ _ s
  refine wpAny_bind (wpAny_field ho rfl (x := .ref l) rfl ?_)
  show wpAny _ _ (if (Value.ref l == Value.none) = true then _ else _) _ _ s
  rw [if_neg (show ¬ ((Value.ref l == Value.none) = true) from Bool.false_ne_true)]
  show wpAny _ _ (field (.ref itr) 1 >>= _) _ _ s
  refine wpAny_bind (wpAny_field ho rfl (x := .int i 0) rfl ?_)
  show wpAny _ _ (seqItems? (.ref l) >>= _) _ _ s
  refine wpAny_bind (wpAny_seqItems hol hdl ?_)
  simp only [Int.toNat_natCast, hx]
  refine wpAny_bind (wpAny_setField ho rfl (by simp) (wpAny_pure ⟨x, rfl, hQ _ ?_ (Heap.SameBut.update ..)⟩))
  rw [Heap.get?_update_self _ ho (Obj.isFreed_of_fields (Obj.data_mapFields rfl _))]
  rfl

theorem news_upd {h h' : Heap} {d : Addr} {o o' : Obj} (F : Fr h₀ L h m) (N : News h₀ L h news) (U : Upd d o o' news news') (hs : Heap.SameBut d h h') (ho : h'.get? d = some o') : Fr h₀ L h' m ∧ News h₀ L h' news' := by
  obtain ⟨pre, post, rfl, rfl, a, b⟩ := U.split
  have hm := N (d, o) (List.mem_append_right _ (.head _))
  exact ⟨F.change hs hm.2.1 hm.2.2, N.setIn a b hs ho⟩
theorem upd_mem {d : Addr} {o o' : Obj} (U : Upd d o o' news news') : (d, o) ∈ news := by
  obtain ⟨pre, post, rfl, rfl, a, b⟩ := U.split
  exact List.mem_append_right _ (.head _)

theorem next_lit {x : Value} {Q : Value → Shared → Prop} (F : Fr h₀ L s.heap m) (N : News h₀ L s.heap news) (U : Upd itr (litObj l i) (litObj l ((i + 1 : Nat) : Int)) news news') (hl : h₀.IsList l items) (hx : items[i]? = some x)
    (h : ∀ h', Fr h₀ L h' m → News h₀ L h' news' → Q x { s with heap := h' }) : wpAny (model prog w) A (call (.builtin "next") [.ref itr]) Q E s := by
  have hm := N _ (upd_mem U)
  refine call_function_entry (by decide +kernel) (by decide +kernel) kdk_entry_next (kdk_args_next _) ?_
  unfold Builtin.«next»
  refine wpAny_bind (m := someArgs "next" 1 2 _) (wpAny_of_eq (a := [Value.ref itr]) (by first | rfl | kernel_rfl!) ?_)
  dsimp only
  refine wpAny_bind (wpAny_specialOf (name := Str.ofString "__next__") (lit_at hm.1).typeIs slot_listiter_next.lookup ?_)
  refine wpAny_ite_split (fun hab => absurd hab (by decide)) (fun _ => ?_)
  refine wpAny_bind (lit_special hm.1 (hl.at fun o e => F.keep _ o e) hx fun h' ho' hs => ?_)
  obtain ⟨F', N'⟩ := news_upd F N U hs ho'
  exact wpAny_pure ⟨_, rfl, h h' F' N'⟩

theorem own_stop (args : List Value) : ownMembersOf (.type "StopIteration") args = #[] := rfl

theorem lit_special_end {Q : Option Value → Shared → Prop} (hh : A.handled = none) (ho : s.heap.get? itr = some (litObj l i)) (hl : s.heap.IsList l items) (hx : items[i]? = none)
    (hQ : ∀ h₁ h' e, h₁.get? itr = some { cls := .type "list_iterator", data := .fields #[.none, .int i 0] } → Heap.SameBut itr s.heap h₁ → Heap.MadeExc h₁ h' e "StopIteration" [] → E (.ref e) { s with heap := h' }) :
    wpAny (model prog w) A (callSpecial? (.ref itr) (Str.ofString "__next__")) Q E s := by
  obtain ⟨ol, hol, _, nl, hdl⟩ := hl
  refine wpAny_callSpecial?_slot (name := Str.ofString "__next__") (lit_at ho).typeIs slot_listiter_next
    (wpAny_call_entry slot_listiter_next (lit_at ho).typeIs entry_listiter_next ?_ (args_listiter_next _))
  show wpAny _ _ (field (.ref itr) 0 >>= _) _ _ s
  refine wpAny_bind (wpAny_field ho rfl (x := .ref l) rfl ?_)
  show wpAny _ _ (if (Value.ref l == Value.none) = true then _ else _) _ _ s
  rw [if_neg (show ¬ ((Value.ref l == Value.none) = true) from Bool.false_ne_true)]
  show wpAny _ _ (field (.ref itr) 1 >>= _) _ _ s
  refine wpAny_bind (wpAny_field ho rfl (x := .int i 0) rfl ?_)
  show wpAny _ _ (seqItems? (.ref l) >>= _) _ _ s
  refine wpAny_bind (wpAny_seqItems hol hdl ?_)
  simp only [Int.toNat_natCast, hx]
  refine wpAny_bind (wpAny_rule (wpAny_bind (wpAny_setField ho rfl (by simp) ?_)))
  have hs := Heap.SameBut.update (a := itr) (h := s.heap) (f := Obj.mapFields (·.setIfInBounds 0 Value.none))
  have h1 : (s.heap.update itr (Obj.mapFields (·.setIfInBounds 0 Value.none))).get? itr = some { cls := .type "list_iterator", data := .fields #[.none, .int i 0] } := by
    rw [Heap.get?_update_self _ ho (Obj.isFreed_of_fields (Obj.data_mapFields rfl _))]
    rfl
  generalize s.heap.update itr (Obj.mapFields (·.setIfInBounds 0 Value.none)) = h₁ at *
  show wpAny _ _ (newExc (.type "StopIteration") [] >>= _) _ _ _
  refine wpAny_bind ?_
  simp only [newExc, newTuple]
  refine wpAny_bind (wpAny_newObj_type ?_ (by size_fits))
  refine wpAny_bind (m := firstArgMember _ _) (wpAny_of_eq (a := Value.none) (by first | rfl | (simp only [firstArgMember]; rfl)) ?_)
  refine wpAny_newObj_type ?_ (by size_fits)
  simp only [raiseNew]
  refine wpAny_bind (wpAny_handled ?_)
  rw [show A.in1.handled = none from hh]
  refine wpAny_bind (wpAny_pure (wpAny_throw ?_))
  rw [own_stop]
  refine hQ h₁ _ _ h1 hs ⟨fun b o hb => Heap.get?_push_of_some _ (Heap.get?_push_of_some _ hb), Heap.get?_none_of_le (by simp), h₁.objs.size, Heap.get?_push_size _ rfl, Heap.get?_none_of_le (Nat.le_refl _), ?_⟩
  exact Heap.get?_push_of_some _ (Heap.get?_push_size _ rfl)

theorem method_slot {K : Frag} {x C p : Addr} {ox od : Obj} {name : Str} {v : Value} {j : Nat} {pl : Sem Bool} {Q : Value × List Value → Shared → Prop} (F : Fr h₀ L s.heap m) (X₀ : K.In h₀) (I : InstAt s.heap x ox C (some od)) (hg : plainGet K C name = true) (hc : isClsIn K C = true)
    (ha : findIn K (.ref C) name = some (some (.ref p))) (hT : typeIn K (.ref p) = some (.type "member_descriptor")) (hn : specialIn K (.ref p) "__get__" = some (some (.builtin "member_descriptor.__get__"))) (ht : takesIn K (.ref p) = some true) (hp : slotIn K p C = some j)
    (hv : (ox.slots[j]?).join = some v) (hh : handedIn v = true) (h : Q (v, []) { s with toks := s.toks + 1 }) : wpAny (model prog w) A (getMethod (.ref x) name pl) Q E s := by
  have X := X₀.keeps F.keep
  have hcan := PySem.F.canon_object_ga
  obtain ⟨hga, hk⟩ := plainGet_of hg
  unfold getMethod specialOf
  refine wpAny_bind (wpAny_bind (I.type.here ((looks_findIn X hga).here ?_)))
  dsimp only
  rw [hcan, if_neg (by decide)]
  refine wpAny_bind (wpAny_bind (I.type.here ((looks_findIn X hk).here ?_)))
  refine wpAny_bind (wpAny_bind (I.type.here ((looks_findIn X ha).here (wpAny_bind ((looks_typeIn X hT).here ?_)))))
  rw [if_pos (by decide +kernel)]
  exact wpAny_bind (get_slot F X₀ I hg hc ha hn ht hp hv hh (wpAny_pure h))

theorem stop_iter {α : Type} {Q : α → Shared → Prop} (hh : A.handled = none) (hQ : ∀ h' e, Heap.MadeExc s.heap h' e "StopIteration" [] → E (.ref e) { s with heap := h' }) :
    wpAny (model prog w) A.in1 (Builtin.SmallTypes.stopIteration : Sem α) Q E s := by
  show wpAny _ _ (newExc (.type "StopIteration") [] >>= _) _ _ _
  refine wpAny_bind ?_
  simp only [newExc, newTuple]
  refine wpAny_bind (wpAny_newObj_type ?_ (by size_fits))
  refine wpAny_bind (m := firstArgMember _ _) (wpAny_of_eq (a := Value.none) (by first | rfl | (simp only [firstArgMember]; rfl)) ?_)
  refine wpAny_newObj_type ?_ (by size_fits)
  simp only [raiseNew]
  refine wpAny_bind (wpAny_handled ?_)
  rw [show A.in1.handled = none from hh]
  refine wpAny_bind (wpAny_pure (wpAny_throw ?_))
  rw [own_stop]
  refine hQ _ _ ⟨fun b o hb => Heap.get?_push_of_some _ (Heap.get?_push_of_some _ hb), Heap.get?_none_of_le (by simp), s.heap.objs.size, Heap.get?_push_size _ rfl, Heap.get?_none_of_le (Nat.le_refl _), ?_⟩
  exact Heap.get?_push_of_some _ (Heap.get?_push_size _ rfl)

/-- the iterator is at its end: its next step raises StopIteration -/
structure Ends (prog : Program) (w : World) (base : Heap) (itr : Addr) (io io' : Obj) : Prop where
  cls : io.cls = .type "list_iterator"
  go : ∀ (A : Around) (E : Value → Shared → Prop) (s : Shared) (Q : Option Value → Shared → Prop), A.handled = none → s.heap.get? itr = some io → base.StaysIn s.heap →
    (∀ h₁ h' e, h₁.get? itr = some io' → Heap.SameBut itr s.heap h₁ → Heap.MadeExc h₁ h' e "StopIteration" [] → E (.ref e) { s with heap := h' }) → wpAny (model prog w) A (callSpecial? (.ref itr) (Str.ofString "__next__")) Q E s
theorem ends_last {base : Heap} (hl : base.IsList l items) (hx : items[i]? = none) : Ends prog w base itr (litObj l i) (litOver i) where
  cls := rfl
  go := fun _A _E _s _Q hh ho hs hQ => lit_special_end hh ho (hl.at fun o e => hs _ o e) hx hQ
theorem ends_over {base : Heap} : Ends prog w base itr (litOver i) (litOver i) where
  cls := rfl
  go := fun _A _E s _Q hh ho _hs hQ => by
    have hT : s.TypeIs (.ref itr) "list_iterator" := ⟨_, ho, rfl⟩
    refine wpAny_callSpecial?_slot (name := Str.ofString "__next__") hT slot_listiter_next
      (wpAny_call_entry slot_listiter_next hT entry_listiter_next ?_ (args_listiter_next _))
    show wpAny _ _ (field (.ref itr) 0 >>= _) _ _ s
    refine wpAny_bind (wpAny_field ho rfl (x := .none) rfl ?_)
    show wpAny _ _ (if (Value.none == Value.none) = true then _ else _) _ _ s
    rw [if_pos (by decide)]
    refine wpAny_bind (wpAny_rule (wpAny_bind (stop_iter hh fun h' e hX => hQ s.heap h' e ho ?_ hX)))
    exact ⟨rfl, fun _ _ => rfl⟩

theorem next_ends {base : Heap} {outer : List Env} {A₀ : Around} {io io' : Obj} {Q : Value → Shared → Prop} (X : Ends prog w base itr io io') (hh : A.handled = none) (B : Below A₀ base outer h₀) (F : Fr h₀ L s.heap m) (N : News h₀ L s.heap news) (U : Upd itr io io' news news')
    (h : ∀ h₁ h' e, Fr h₀ L h₁ m → News h₀ L h₁ news' → Heap.MadeExc h₁ h' e "StopIteration" [] → E (.ref e) { s with heap := h' }) : wpAny (model prog w) A (call (.builtin "next") [.ref itr]) Q E s := by
  have hm := N _ (upd_mem U)
  have hT : s.TypeIs (.ref itr) "list_iterator" := ⟨_, hm.1, X.cls⟩
  refine call_function_entry (by decide +kernel) (by decide +kernel) kdk_entry_next (kdk_args_next _) ?_
  unfold Builtin.«next»
  refine wpAny_bind (m := someArgs "next" 1 2 _) (wpAny_of_eq (a := [Value.ref itr]) (by first | rfl | kernel_rfl!) ?_)
  dsimp only
  refine wpAny_bind (wpAny_specialOf (name := Str.ofString "__next__") hT slot_listiter_next.lookup ?_)
  refine wpAny_ite_split (fun hab => absurd hab (by decide)) (fun _ => ?_)
  refine wpAny_bind (X.go _ _ _ _ hh hm.1 (fun b o e => F.keep _ o (B.stays b o e)) fun h₁ h' e ho' hs hX => ?_)
  obtain ⟨F', N'⟩ := news_upd F N U hs ho'
  exact h h₁ h' e F' N' hX
end
end Mine
end

-- R2
section
open PySem PySem.W PySem.Calls PyProof.Rows
set_option maxRecDepth 100000
namespace Mine
section
variable {prog : Program} {w : World} {A₀ : Around} {E : Value → Shared → Prop} {s' : Shared} {base g g₀ h : Heap} {outer : List Env} {L a e : Addr} {m : Str → Option Value} {name : Str} {scope : Scope} {cd : Value}
  {b₀ : Stmt} {suite : List Stmt} {pos np : Pos} {rest : List ExceptHandler} {Q : Flow → Shared → Prop} {news : List (Addr × Obj)} {KF : Frag}
  {p : Program} {loose : List Str} {mean : ExcName → Option Value} {mg mb : Str → Option Value} {x : Str} {X T' : String} {vs : List Value}

/-- raised and caught in one frame, deep in the stack: the outer frames' slots turn -/
theorem caught_now (hx : Heap.MadeExc h s'.heap e X vs) (F : Fr g L h m) (N : News g L h news) (K : Below A₀ base outer g) (XB : KF.In base) (TB : Top p loose mean mg mb base)
    (D : KtsDicts (outer.filterMap (·.frame)) g) (T0 : KtsTurn (outer.filterMap (·.frame)) g₀ g)
    (ex : nsIn KF mainGlobals x = some none) (hv : bootBuiltins x = some (.type T')) (hn' : x ≠ "__name__")
    (hexc : isSubtype (.type T') (.type "BaseException") = pure true) (hnt : isSubtype (.type ((Manifest.find? T').elim "type" fun y => y.metatype)) (.type "tuple") = pure false) (hsub : isSubtype (.type X) (.type T') = pure true)
    (k : ∀ h' g', KtsTurn (outer.filterMap (·.frame)) g₀ g' → Fr g' L h' m → News g' L h' news → Below A₀ base outer g' → KF.In g' → Top p loose mean mg mb g' → KtsDicts (outer.filterMap (·.frame)) g' →
      wpAny (model prog w) ((A₀.deeper (envOf name scope L a cd)).mark (some (.ref e))) (execs (b₀ :: suite) (envOf name scope L a cd)) Q E { s' with heap := h' })
    (hk : scope.kind = .function := by rfl) (hxk : (envOf name scope L a cd).kindOf x = some .globalImplicit := by rfl) (hd : (x == ("__debug__" : Str)) = false := by decide)
    (hE : PassesOwnAt (model prog w) ((A₀.deeper (envOf name scope L a cd)).mark (some (.ref e))) (A₀.deeper (envOf name scope L a cd)) (envOf name scope L a cd) E := by passes_own) :
    wpAny (model prog w) (A₀.deeper (envOf name scope L a cd)) (noteFrame (.ref e) (envOf name scope L a cd))
      (fun _ s₂ => wpAny (model prog w) (A₀.deeper (envOf name scope L a cd)) (setFlight (.ref e) none) (fun _ s₃ =>
        wpAny (model prog w) (A₀.deeper (envOf name scope L a cd)) (handleBy (.ref e) (envOf name scope L a cd) (.ExceptHandler (some (.Name x np)) none (b₀ :: suite) pos :: rest)) Q E s₃) E s₂) E s' := by
  have K' := K.push (name := name) (a := a) (cd := cd) F hk
  have inFr : ∀ env ∈ (envOf name scope L a cd :: outer), ∀ b, env.frame = some b → b ∈ (envOf name scope L a cd :: outer).filterMap (·.frame) := fun env he b hb => List.mem_filterMap.mpr ⟨env, he, hb⟩
  have stB : base.StaysIn (hideAll h ((envOf name scope L a cd :: outer).filterMap (·.frame))) := fun b o q => hideAll_get _ (K'.stays b o q) fun hm => by
    rw [(K'.frames.mem hm).1] at q; cases q
  have stG : ∀ b o, g.get? b = some o → b ∉ outer.filterMap (·.frame) → (hideAll h ((envOf name scope L a cd :: outer).filterMap (·.frame))).get? b = some o := fun b o q nm => hideAll_get _ (F.keep b o q) fun hm => by
    rcases kts_mem hm with z | z
    · rw [z, kts_self F] at q; cases q
    · exact nm z
  have ledB : ∀ q ∈ news, (hideAll h ((envOf name scope L a cd :: outer).filterMap (·.frame))).get? q.1 = some q.2 := fun q hq => by
    refine hideAll_get _ (N q hq).1 fun hm => ?_
    obtain ⟨env, he, hf⟩ := List.mem_filterMap.mp hm
    rcases List.mem_cons.mp he with rfl | he
    · exact (N q hq).2.1 (Option.some.inj hf).symm
    · obtain ⟨o, ho, _⟩ := (K.frames.mem (List.mem_filterMap.mpr ⟨env, he, hf⟩)).2
      rw [(N q hq).2.2] at ho; cases ho
  have noL : (hideAll h ((envOf name scope L a cd :: outer).filterMap (·.frame))).get? L = none := hideAll_none _ (inFr _ (.head _) L rfl)
  have frB := funFrames_hide K'.frames inFr
  have subB : ∀ b o, (hideAll h ((envOf name scope L a cd :: outer).filterMap (·.frame))).get? b = some o → h.get? b = some o := fun b o q => of_hideAll _ q
  have fullB : ∀ b o, h.get? b = some o → b ∉ (envOf name scope L a cd :: outer).filterMap (·.frame) → (hideAll h ((envOf name scope L a cd :: outer).filterMap (·.frame))).get? b = some o := fun b o q nm => hideAll_get _ q nm
  generalize hideAll h ((envOf name scope L a cd :: outer).filterMap (·.frame)) = B at *
  obtain ⟨t, het, htn, htup⟩ := hx.there
  have newB : B.get? e = none := by
    cases q : B.get? e with
    | none => rfl
    | some o => have := subB e o q; rw [hx.new] at this; cases this
  have up0 : h.UpToSlots s'.heap := Heap.UpToSlots.of_keeps hx.keeps
  -- the first note
  have note : ∀ {Q' : Unit → Shared → Prop}, (∀ h₄, Heap.HeldW B (envOf name scope L a cd :: outer) e (.type X) (.ref t) L h₄ → s'.heap.UpToSlots h₄ → Q' () { s' with heap := h₄ }) →
      wpAny (model prog w) (A₀.deeper (envOf name scope L a cd)) (noteFrame (.ref e) (envOf name scope L a cd)) Q' E s' := by
    intro Q' hQ
    unfold noteFrame
    simp only [show (envOf name scope L a cd).frame = some L from rfl]
    refine wpAny_bind (wpAny_field het rfl (x := .none) rfl ?_)
    rw [if_neg (by decide)]
    refine wpAny_entryW (base := B) (outer := outer) (Around.frames_deeper K.stack) (frB.of_keeps fun b o hb _ => ⟨o, hx.keeps b o hb, rfl⟩) rfl het (fun b o q => hx.keeps b o (subB b o q)) newB rfl (by show 1 < 6; decide) rfl fun h' hN => ?_
    obtain ⟨k1, k2, k3, k4⟩ := hN
    exact hQ h' ⟨k1, newB, k2, k3⟩ k4
  refine note fun h₄ hheld₄ hsm₄ => ?_
  refine wpAny_landsW hheld₄ fun h₅ hheld hsm₅' => ?_
  have hsm₅ := up0.trans (hsm₄.trans hsm₅')
  obtain ⟨g₅, T₅, F₅, K₅⟩ := kts_ground K F fullB hheld.1 hsm₅
  have X₅ : KF.In g₅ := XB.keeps K₅.stays
  have P₅ : TopRead p loose mg mb g₅ := topRead_of (TB.keeps K₅.stays)
  obtain ⟨ob, hob, hobc⟩ := hheld.there
  refine wpAny_handleBy_builtin (X := X) (T := T') (b := true) hexc hnt hsub (name_B F₅ X₅ P₅ ex hv hn' ⟨rfl, ⟨ob, hob, hobc⟩, ?_⟩ hk hxk hd)
  refine lands_againW hheld fun h₆ hfl₆ hsm₆ => ?_
  obtain ⟨g₆, T₆, F₆, K₆⟩ := kts_ground K F fullB hfl₆.1 (hsm₅.trans hsm₆)
  have N₆ : News g₆ L h₆ news := fun q hq => ⟨hfl₆.1 _ _ (ledB q hq), (fun z => by have := ledB q hq; rw [z, noL] at this; cases this), T₆.none_ _ (N q hq).2.2⟩
  exact wpAny_passesOwnAt hE (k h₆ g₆ (T0.trans T₆) F₆ N₆ K₆ (XB.keeps K₆.stays) (TB.keeps K₆.stays) (D.turn T₆))

theorem stop_isExc : isSubtype (.type "StopIteration") (.type "BaseException") = pure true := by rw [isSubtype_type]; kernel_rfl
theorem stop_notTuple : isSubtype (.type ((Manifest.find? "StopIteration").elim "type" fun y => y.metatype)) (.type "tuple") = pure false := by
  rw [show (Manifest.find? "StopIteration").elim "type" (fun y => y.metatype) = "type" by decide +kernel, isSubtype_type]; kernel_rfl
theorem stop_self : isSubtype (.type "StopIteration") (.type "StopIteration") = pure true := by rw [isSubtype_type]; kernel_rfl
theorem caught_stop (hx : Heap.MadeExc h s'.heap e "StopIteration" vs) (F : Fr g L h m) (N : News g L h news) (K : Below A₀ base outer g) (XB : KF.In base) (TB : Top p loose mean mg mb base)
    (D : KtsDicts (outer.filterMap (·.frame)) g) (T0 : KtsTurn (outer.filterMap (·.frame)) g₀ g)
    (ex : nsIn KF mainGlobals "StopIteration" = some none)
    (k : ∀ h' g', KtsTurn (outer.filterMap (·.frame)) g₀ g' → Fr g' L h' m → News g' L h' news → Below A₀ base outer g' → KF.In g' → Top p loose mean mg mb g' → KtsDicts (outer.filterMap (·.frame)) g' →
      wpAny (model prog w) ((A₀.deeper (envOf name scope L a cd)).mark (some (.ref e))) (execs (b₀ :: suite) (envOf name scope L a cd)) Q E { s' with heap := h' })
    (hk : scope.kind = .function := by rfl) (hxk : (envOf name scope L a cd).kindOf "StopIteration" = some .globalImplicit := by rfl)
    (hE : PassesOwnAt (model prog w) ((A₀.deeper (envOf name scope L a cd)).mark (some (.ref e))) (A₀.deeper (envOf name scope L a cd)) (envOf name scope L a cd) E := by passes_own) :
    wpAny (model prog w) (A₀.deeper (envOf name scope L a cd)) (noteFrame (.ref e) (envOf name scope L a cd))
      (fun _ s₂ => wpAny (model prog w) (A₀.deeper (envOf name scope L a cd)) (setFlight (.ref e) none) (fun _ s₃ =>
        wpAny (model prog w) (A₀.deeper (envOf name scope L a cd)) (handleBy (.ref e) (envOf name scope L a cd) (.ExceptHandler (some (.Name "StopIteration" np)) none (b₀ :: suite) pos :: rest)) Q E s₃) E s₂) E s' :=
  caught_now hx F N K XB TB D T0 ex Boot.«StopIteration» (by decide) stop_isExc stop_notTuple stop_self k hk hxk (by decide) hE
end
end Mine
end

-- Ctx2
section
open PySem PySem.W PySem.Calls PyProof.Rows
set_option maxRecDepth 100000
namespace Mine
/-- a bare setting: these frames, nothing in hand -/
abbrev kAt (dp un : Nat) (gd : Option (List Code)) (outer : List Env) : Around := { handled := none, depth := dp, frames := some outer, guards := gd, units := un }

/-- the makes V lie in h, and g, the elder part, knows none of them -/
structure Sits (g h : Heap) (V : List (Addr × Obj)) : Prop where
  keep : ∀ b o, g.get? b = some o → h.get? b = some o
  size : g.objs.size ≤ h.objs.size
  has : ∀ q ∈ V, h.get? q.1 = some q.2 ∧ g.get? q.1 = none

/-- what a call stands on -/
structure Stand (w : World) (p : Program) (loose : List Str) (mean : ExcName → Option Value) (mg mb : Str → Option Value) (A : Around) (base : Heap) (outer : List Env) (g : Heap) : Prop where
  B : Below A base outer g
  X : (hd.heap_39 w.params).In g
  T : Top p loose mean mg mb g
  XB : (hd.heap_39 w.params).In base
  TB : Top p loose mean mg mb base
  D : KtsDicts (outer.filterMap (·.frame)) g

section
variable {s : Shared} {w : World} {p : Program} {loose : List Str} {mean : ExcName → Option Value} {mg mb : Str → Option Value} {A₀ A : Around} {base h₀ g g' g'' h h' : Heap} {outer : List Env} {L a : Addr} {m : Str → Option Value} {cn : Str} {cs : Scope} {ccd : Value} {V V' W : List (Addr × Obj)} {fs : List Addr}

theorem Sits.of_fr (F : Fr g L h m) (N : News g L h V) : Sits g h V :=
  ⟨F.keep, by obtain ⟨o, _, _, ho, _⟩ := F.ns; exact Nat.le_of_lt (Nat.lt_of_le_of_lt F.above (Heap.lt_size ho)), fun q hq => ⟨(N q hq).1, (N q hq).2.2⟩⟩

theorem Sits.sub (S : Sits g h V) (hV : ∀ q ∈ V', q ∈ V) : Sits g h V' := ⟨S.keep, S.size, fun q hq => S.has q (hV q hq)⟩

theorem Stand.turn (S : Stand w p loose mean mg mb A base outer g) (T : KtsTurn (outer.filterMap (·.frame)) g g') : Stand w p loose mean mg mb A base outer g' := by
  have B' : Below A base outer g' := ⟨S.B.stack, fun b o e => T.other b o (S.B.stays b o e) (fun hm => by
    rw [(S.B.frames.mem hm).1] at e
    cases e), S.B.frames.of_keeps fun b o e _ => by
      obtain ⟨sl, hs⟩ := T.up e
      exact ⟨_, hs, rfl⟩⟩
  exact ⟨B', S.XB.keeps B'.stays, S.TB.keeps B'.stays, S.XB, S.TB, S.D.turn T⟩

theorem Stand.around (S : Stand w p loose mean mg mb A base outer g) (h : A₀.frames = some outer) : Stand w p loose mean mg mb A₀ base outer g :=
  ⟨⟨h, S.B.stays, S.B.frames⟩, S.X, S.T, S.XB, S.TB, S.D⟩

/-- from a python frame to the setting of the calls made in it, and back -/
theorem ground {W₀ : List (Addr × Obj)} (B : Below A₀ base outer h₀) (F : Fr h₀ L s.heap m) (X₀ : (hd.heap_39 w.params).In h₀) (N : News h₀ L s.heap W₀) (T : Top p loose mean mg mb h₀) (XB : (hd.heap_39 w.params).In base) (TB : Top p loose mean mg mb base)
    (D : KtsDicts (outer.filterMap (·.frame)) h₀) (hA : A.frames = some (envOf cn cs L a ccd :: outer)) (hck : cs.kind = .function)
    (hV : ∀ q ∈ V, q ∈ W₀) (hW : ∀ q ∈ W, q ∈ W₀) (hN : ∀ q ∈ W, ∀ r ∈ V, q.1 ≠ r.1) :
    ∃ g, Stand w p loose mean mg mb A base (envOf cn cs L a ccd :: outer) g ∧ Sits g s.heap V ∧
      Fr h₀ L g m ∧
      (∀ q ∈ W, g.get? q.1 = some q.2) ∧
      ∀ g' h' V', KtsTurn ((envOf cn cs L a ccd :: outer).filterMap (·.frame)) g g' → Sits g' h' V' →
        ∃ h₀', KtsTurn (outer.filterMap (·.frame)) h₀ h₀' ∧ Fr h₀' L h' m ∧ News h₀' L h' (V' ++ W) ∧ Below A₀ base outer h₀' ∧ (hd.heap_39 w.params).In h₀' ∧ Top p loose mean mg mb h₀' ∧ KtsDicts (outer.filterMap (·.frame)) h₀' := by
  have NV : News h₀ L s.heap V := fun q hq => N q (hV q hq)
  obtain ⟨oL, es, ep, hLg, hLd, hNf, hNs, st, B₂⟩ := kts_enter (s := s) B F NV hA hck
  have X₁ := X₀.keeps st
  have T₁ := T.keeps st
  refine ⟨_, ⟨B₂, X₁, T₁, XB, TB, fun b hb => ?_⟩, ⟨fun b o e => of_hideAll _ e, Nat.le_of_eq (hideAll_size _ _), fun q hq => ⟨(NV q hq).1, hideAll_none _ (List.mem_map_of_mem hq)⟩⟩, ⟨hNf _ hLg, st, F.above⟩, fun q hq => hideAll_get _ (N q (hW q hq)).1 (fun hm => ?_), fun g' h' V' T' S' => ?_⟩
  · rcases kts_mem hb with rfl | hb
    · exact ⟨oL, es, ep, hLg, hLd⟩
    · obtain ⟨o, es', n', ho', hd'⟩ := D b hb
      exact ⟨o, es', n', st b o ho', hd'⟩
  · obtain ⟨r, hr, e⟩ := List.mem_map.mp hm
    exact hN q hq r hr e.symm
  · have nL₀ : h₀.get? L = none := kts_self F
    obtain ⟨sl, hs⟩ := T'.up hLg
    have inL : L ∈ (envOf cn cs L a ccd :: outer).filterMap (·.frame) := List.mem_filterMap.mpr ⟨_, .head _, rfl⟩
    obtain ⟨T₂, K₂⟩ := kts_turn_at (h := h') (fs := outer.filterMap (·.frame)) (g := h₀)
      (fun b hb => by
        obtain ⟨_, o, ho, _⟩ := B.frames.mem hb
        exact ⟨o, ho⟩)
      (fun b o e nm => S'.keep _ _ (T'.other b o (st b o e) (fun hm => by
        rcases kts_mem hm with z | z
        · rw [z, nL₀] at e; cases e
        · exact nm z)))
      (fun b o e hm => by
        obtain ⟨sl, hs⟩ := T'.up (st b o e)
        exact ⟨sl, S'.keep _ _ hs⟩)
    have B' : Below A₀ base outer (ktsHeap h' (outer.filterMap (·.frame)) h₀) := ⟨B.stack, fun b o e => T₂.other b o (B.stays b o e) (fun hm => by
      rw [(B.frames.mem hm).1] at e
      cases e), B.frames.of_keeps fun b o e _ => by
        obtain ⟨sl, hs⟩ := T₂.up e
        exact ⟨_, hs, rfl⟩⟩
    refine ⟨_, T₂, ⟨hNs sl _ (S'.keep _ _ hs), K₂, by rw [T₂.size]; exact F.above⟩, fun q hq => ?_, B', XB.keeps B'.stays, TB.keeps B'.stays, D.turn T₂⟩
    have hget : ∀ b, g'.get? b = none → b ≠ L ∧ (ktsHeap h' (outer.filterMap (·.frame)) h₀).get? b = none := fun b e => by
      refine ⟨fun z => ?_, T₂.none_ _ ?_⟩
      · rw [z, hs] at e; cases e
      · cases q : h₀.get? b with
        | none => rfl
        | some o =>
          obtain ⟨sl', hs'⟩ := T'.up (st _ _ q)
          rw [hs'] at e; cases e
    rcases List.mem_append.mp hq with hq | hq
    · exact ⟨(S'.has q hq).1, (hget _ (S'.has q hq).2).1, (hget _ (S'.has q hq).2).2⟩
    · have n0 := N q (hW q hq)
      have e1 : (hideAll s.heap (V.map (·.1))).get? q.1 = some q.2 := hideAll_get _ n0.1 (fun hm => by
        obtain ⟨r, hr, e⟩ := List.mem_map.mp hm
        exact hN q hq r hr e.symm)
      refine ⟨S'.keep _ _ (T'.other _ _ e1 (fun hm => ?_)), n0.2.1, T₂.none_ _ n0.2.2⟩
      rcases kts_mem hm with z | z
      · exact n0.2.1 z
      · obtain ⟨_, o, ho, _⟩ := B.frames.mem z
        rw [n0.2.2] at ho; cases ho

section
variable {prog : Program} {K : Frag} {R : Result → Shared → Prop} {name qual : Str} {params : Arguments} {body : List Stmt} {scope : Scope} {dV kV doc pm cdv ct oc : Value} {an od : Option Addr} {osl : Array (Option Value)} {f : Addr} {args : Args} {binds : List (Str × Value)}
/-- the entry to a python function, seen from the callee -/
theorem enter (S : Sits g s.heap V) (X₀ : K.In g) (T : Top p loose mean mg mb g)
    (ho : K.lookup f = some ⟨oc, od, .func (fnOf name qual params body scope dV kV doc pm an cdv ct), osl⟩) (hcd : codeIn K cdv qual = true) (hroom : A.depth < recursionLimit)
    (hbind : BindsTo s (fnOf name qual params body scope dV kV doc pm an cdv ct) args binds) (hloc : ∀ y ∈ binds, scope.names.lookup y.1 = some .local)
    (h : ∀ L' h₁, Fr g L' h₁ (fun y => binds.reverse.lookup y) → News g L' h₁ V →
      wpAny (model prog w) (A.deeper (envOf qual scope L' f cdv)) (execs body (envOf qual scope L' f cdv))
        (fun fl s' => R (.ok (.ret (match fl with | .ret v => v | _ => .none))) s')
        (fun e s' => wpAny (model prog w) (A.deeper (envOf qual scope L' f cdv)) (leaving (envOf qual scope L' f cdv) e) (fun _ s'' => R (.error e) s'') (fun e' s'' => R (.error e') s'') s')
        { s with heap := h₁, toks := s.toks + binds.length })
    (hco : scope.isCoroutine = false) (hgen : scope.isGenerator = false) (hk : scope.kind = .function)
    (hcell : ∀ x ∈ scope.names, x.2 ≠ .cell) : codeAny (model prog w) A (.call (.ref f) args) R s := by
  have X := X₀.keeps S.keep
  refine codeAny_call_def (fd := fnOf name qual params body scope dV kV doc pm an cdv ct) (body := body) (binds := binds) hroom (X _ _ ho) rfl (T.nolimit.keeps S.keep) (codeRec_of X hcd) rfl hbind hcell hloc (fun h₁ hns hk₁ => ?_) hco hgen hk
  exact h s.heap.objs.size h₁ ⟨hns, fun b o e => hk₁ b o (S.keep b o e), S.size⟩ fun q hq => ⟨hk₁ _ _ (S.has q hq).1, Nat.ne_of_lt (Heap.lt_size (S.has q hq).1), (S.has q hq).2⟩
end

section
/-- a StopIteration leaves the frames of a call -/
structure Fails (base g : Heap) (outer : List Env) (e : Addr) (V : List (Addr × Obj)) (h' : Heap) : Prop where
  R : ∃ t, RaisedS base g outer e (.type "StopIteration") t [] V h'
  U : g.UpToSlots h'
  size : g.objs.size ≤ h'.objs.size

theorem leave_raiseZ {M : Model} {E : Value → Shared → Prop} {s' : Shared} {e : Addr} {Q : Unit → Shared → Prop} {news : List (Addr × Obj)} {name : Str} {scope : Scope} {cd : Value}
    (K : Below A base outer g) (hx : Heap.MadeExc h s'.heap e "StopIteration" []) (F : Fr g L h m) (N : News g L h news)
    (hQ : ∀ h', Fails base g outer e news h' → Q () { s' with heap := h' }) (hk : scope.kind = .function := by rfl) :
    wpAny M (A.deeper (envOf name scope L a cd)) (leaving (envOf name scope L a cd) (.ref e)) Q E s' := by
  have K' := K.push (name := name) (a := a) (cd := cd) F hk
  have hin : ∀ env ∈ (envOf name scope L a cd :: outer), ∀ b, env.frame = some b → b ∈ (envOf name scope L a cd :: outer).filterMap (·.frame) := fun env he b hb => List.mem_filterMap.mpr ⟨env, he, hb⟩
  have st : base.StaysIn (hideAll h ((envOf name scope L a cd :: outer).filterMap (·.frame))) := fun b o q => hideAll_get _ (K'.stays b o q) fun hm => by
    rw [(K'.frames.mem hm).1] at q; cases q
  have sg : ∀ b o, g.get? b = some o → b ∉ outer.filterMap (·.frame) → (hideAll h ((envOf name scope L a cd :: outer).filterMap (·.frame))).get? b = some o := fun b o q nm => hideAll_get _ (F.keep b o q) fun hm => by
    rcases kts_mem hm with z | z
    · rw [z, kts_self F] at q
      cases q
    · exact nm z
  have hl : ∀ q ∈ news, (hideAll h ((envOf name scope L a cd :: outer).filterMap (·.frame))).get? q.1 = some q.2 ∧ g.get? q.1 = none ∧ base.get? q.1 = none := fun q hq => by
    refine ⟨hideAll_get _ (N q hq).1 fun hm => ?_, (N q hq).2.2, fresh_of_stays K.stays (N q hq).2.2⟩
    obtain ⟨env, he, hf⟩ := List.mem_filterMap.mp hm
    rcases List.mem_cons.mp he with rfl | he
    · exact (N q hq).2.1 (Option.some.inj hf).symm
    · obtain ⟨o, ho, _⟩ := (K.frames.mem (List.mem_filterMap.mpr ⟨env, he, hf⟩)).2
      rw [(N q hq).2.2] at ho; cases ho
  obtain ⟨oL, es, n, ho, hdt, _⟩ := F.ns
  exact wpAny_leaves_madeW K'.stack rfl (fun b o q => of_hideAll _ q) (funFrames_hide K'.frames hin) hx.of fun h' t x1 x2 x3 x4 =>
    have up := (Heap.UpToSlots.of_keeps hx.keeps).trans x4
    hQ h' ⟨⟨t, ⟨_, st, sg, hl, x1, x3⟩, x2⟩, (Heap.UpToSlots.of_keeps F.keep).trans up, by
      obtain ⟨sl, hs⟩ := up L oL ho (fun vs => by rw [hdt]; exact fun z => nomatch z)
      exact Nat.le_of_lt (Nat.lt_of_le_of_lt F.above (Heap.lt_size hs))⟩

theorem leave_onZ {M : Model} {E : Value → Shared → Prop} {s' : Shared} {e : Addr} {Q : Unit → Shared → Prop} {news : List (Addr × Obj)} {name : Str} {scope : Scope} {cd : Value} {g₂ : Heap}
    (K : Below A base outer g) (F : Fr g L g₂ m) (R : Fails base g₂ (envOf name scope L a cd :: outer) e news s'.heap)
    (hQ : ∀ h', Fails base g outer e news h' → Q () { s' with heap := h' }) :
    wpAny M (A.deeper (envOf name scope L a cd)) (leaving (envOf name scope L a cd) (.ref e)) Q E s' := by
  obtain ⟨⟨t, ⟨B, hB, hBG, hl, hfl, hnew⟩, htup⟩, hU, _⟩ := R
  obtain ⟨oL, es, n, ho, hdt, _⟩ := F.ns
  exact wpAny_leaves_onW (Around.frames_deeper K.stack) rfl hfl fun h' x1 x2 =>
    have up := hU.trans x2
    hQ h' ⟨⟨t, ⟨B, hB, fun b o q nm => hBG b o (F.keep b o q) (fun hm => by
      rcases kts_mem hm with z | z
      · rw [z, kts_self F] at q
        cases q
      · exact nm z), fun q hq => ⟨(hl q hq).1, kts_none F.keep (hl q hq).2.1, (hl q hq).2.2⟩, x1, hnew⟩, htup.of_slots x2⟩, (Heap.UpToSlots.of_keeps F.keep).trans up, by
      obtain ⟨sl, hs⟩ := up L oL ho (fun vs => by rw [hdt]; exact fun z => nomatch z)
      exact Nat.le_of_lt (Nat.lt_of_le_of_lt F.above (Heap.lt_size hs))⟩
end

/-- an exception on its way, caught: where it lands -/
theorem land {e : Addr} (S : Stand w p loose mean mg mb A base outer g) (R : Fails base g outer e V' h') :
    ∃ g', KtsTurn (outer.filterMap (·.frame)) g g' ∧ Sits g' h' V' := by
  obtain ⟨⟨t, ⟨B', _, hBG, hl, hfl, _⟩, _⟩, U, hz⟩ := R
  obtain ⟨T₂, K₂⟩ := kts_turn_at (h := h') (fs := outer.filterMap (·.frame)) (g := g)
    (fun b hb => by
      obtain ⟨_, o, ho, _⟩ := S.B.frames.mem hb
      exact ⟨o, ho⟩)
    (fun b o e nm => hfl.1 b o (hBG b o e nm))
    (fun b o e hm => by
      obtain ⟨_, o', ho', hd⟩ := S.B.frames.mem hm
      rw [e] at ho'
      cases ho'
      exact U b o e hd)
  exact ⟨_, T₂, ⟨K₂, by rw [T₂.size]; exact hz, fun q hq => ⟨hfl.1 _ _ (hl q hq).1, T₂.none_ _ (hl q hq).2.1⟩⟩⟩
theorem Fails.turn {e : Addr} (R : Fails base g' outer e V' h') (T : KtsTurn (outer.filterMap (·.frame)) g g') : Fails base g outer e V' h' := by
  obtain ⟨⟨t, ⟨B', hB, hBG, hl, hfl, hn⟩, ht⟩, U, hz⟩ := R
  have no : ∀ b, g'.get? b = none → g.get? b = none := fun b e => by
    cases q : g.get? b with
    | none => rfl
    | some o => obtain ⟨sl, hs⟩ := T.up q; rw [hs] at e; cases e
  refine ⟨⟨t, ⟨B', hB, fun b o q nm => hBG b o (T.other b o q nm) nm, fun q hq => ⟨(hl q hq).1, no _ (hl q hq).2.1, (hl q hq).2.2⟩, hfl, hn⟩, ht⟩, fun b o q hd => ?_, by rw [← T.size]; exact hz⟩
  obtain ⟨sl, hs⟩ := T.up q
  obtain ⟨sl', hs'⟩ := U b _ hs hd
  exact ⟨sl', hs'⟩
theorem Fails.sub {e : Addr} (R : Fails base g outer e V' h') (hV : ∀ q ∈ V, q ∈ V') : Fails base g outer e V h' := by
  obtain ⟨⟨t, ⟨B', hB, hBG, hl, hfl, hn⟩, ht⟩, U, hz⟩ := R
  exact ⟨⟨t, ⟨B', hB, hBG, fun q hq => hl q (hV q hq), hfl, hn⟩, ht⟩, U, hz⟩
theorem Fails.there {e : Addr} (R : Fails base g outer e V' h') : ∃ o, h'.get? e = some o ∧ o.cls = .type "StopIteration" := by
  obtain ⟨⟨t, ⟨B', _, _, _, hfl, _⟩, _⟩, _, _⟩ := R
  exact hfl.there
end
end Mine
end

-- GR
section
open PySem PySem.W PySem.Calls PyProof.Rows
set_option maxRecDepth 100000
namespace Mine
/-- tokens and places are never taken back -/
structure Grows (s s' : Shared) : Prop where
  toks : s.toks ≤ s'.toks
  size : s.heap.objs.size ≤ s'.heap.objs.size
theorem Grows.refl (s : Shared) : Grows s s := ⟨Nat.le_refl _, Nat.le_refl _⟩
theorem Grows.trans {a b c : Shared} (x : Grows a b) (y : Grows b c) : Grows a c := ⟨Nat.le_trans x.toks y.toks, Nat.le_trans x.size y.size⟩
theorem Grows.of_eq {a b : Shared} (t : b.toks = a.toks) (h : b.heap.objs.size = a.heap.objs.size) : Grows a b := ⟨Nat.le_of_eq t.symm, Nat.le_of_eq h.symm⟩
theorem update_size (h : Heap) (a : Addr) (f : Obj → Obj) : (h.update a f).objs.size = h.objs.size := by
  unfold Heap.update; simp
theorem Grows.upd {s s' : Shared} {a : Addr} {f : Obj → Obj} (g : Grows { s with heap := s.heap.update a f } s') : Grows s s' :=
  ⟨g.toks, by have := g.size; simp only [update_size] at this; exact this⟩
theorem Grows.psh {s s' : Shared} {o : Obj} (g : Grows { s with heap := s.heap.push o } s') : Grows s s' :=
  ⟨g.toks, Nat.le_trans (by simp [Heap.push]) g.size⟩
theorem Grows.fr {s s' : Shared} (g : Grows { s with toks := s.toks + 1 } s') : Grows s s' :=
  ⟨by have := g.toks; simp at this; lia, g.size⟩

theorem runs_grows {M : Model} {Γ : Ctx} {p : Pos} {t : Sem Fin} {fs : List Frame} {s s' : Shared} {e : End} (r : Runs M Γ p t fs s e s') : Grows s s' := by
  induction r with
  | done => exact .refl _
  | raise => exact .refl _
  | yield => exact .refl _
  | again _ _ ih => exact ih
  | rule _ ih => exact ih
  | «at» _ ih => exact ih
  | load _ _ ih => exact ih
  | update _ _ ih => exact ih.upd
  | loadIfAlive _ ih => exact ih
  | point _ ih => exact ih
  | alloc _ ih => exact ih.psh
  | fresh _ ih => exact ih.fr
  | ask _ ih => exact ih
  | choose _ _ ih => exact ⟨ih.toks, ih.size⟩
  | os _ ih => exact ⟨ih.toks, ih.size⟩
  | handled _ ih => exact ih
  | genState _ _ ih => exact ih
  | stack _ ih => exact ih
  | thread _ ih => exact ih
  | newGen _ ih => exact ⟨ih.toks, ih.size⟩
  | call _ _ i1 i2 => exact i1.trans i2
  | callSusp _ ih => exact ih
  | resumeFresh _ _ _ _ i1 i2 => exact ⟨Nat.le_trans i1.toks i2.toks, Nat.le_trans i1.size i2.size⟩
  | resumeSuspended _ _ _ _ i1 i2 => exact ⟨Nat.le_trans i1.toks i2.toks, Nat.le_trans i1.size i2.size⟩
  | resumeJustStarted _ _ _ ih => exact ih
  | resumeThrowFresh _ _ ih => exact ⟨ih.toks, ih.size⟩
  | resumeRunning _ _ ih => exact ih
  | resumeFinished _ _ ih => exact ih
  | segRet _ _ i1 i2 => exact i1.trans i2
  | segGen _ _ i1 i2 => exact i1.trans ⟨i2.toks, i2.size⟩
  | segSuspOut _ _ ih => exact ih
  | segSuspGen _ _ _ _ i1 i2 => exact i1.trans ⟨i2.toks, i2.size⟩

theorem wakes_grows {M : Model} {Γ : Ctx} {p : Pos} {g : Nat} {r : Resume} {s s' : Shared} {res : GenResult} (h : Wakes M Γ p g r s res s') : Grows s s' := by
  unfold Wakes at h
  split at h
  · exact h.elim
  · split at h
    · obtain ⟨e₁, s₁, hr, _, _, rfl⟩ := h
      have := runs_grows hr
      exact ⟨this.toks, this.size⟩
    · rw [h.2]; exact .refl _
    · rw [h.2]; exact ⟨Nat.le_refl _, Nat.le_refl _⟩
  · obtain ⟨e₁, s₁, hr, _, _, rfl⟩ := h
    have := runs_grows hr
    exact ⟨this.toks, this.size⟩
  · rw [h.2]; exact .refl _
  · rw [h.2]; exact .refl _

theorem wp_grows {α : Type} {M : Model} {Γ : Ctx} (s₀ : Shared) : ∀ (t : Sem α) {Q : α → Pos → Shared → Prop} {E : Value → Pos → Shared → Prop} {p : Pos} {s : Shared}, Grows s₀ s → Sem.wp M Γ t Q E p s →
    Sem.wp M Γ t (fun a p s' => Grows s₀ s' ∧ Q a p s') (fun e p s' => Grows s₀ s' ∧ E e p s') p s := by
  intro t
  induction t with
  | pure a => intro Q E p s g h; unfold Sem.wp at h ⊢; exact ⟨g, h⟩
  | raise e => intro Q E p s g h; unfold Sem.wp at h ⊢; exact ⟨g, h⟩
  | unsupported _ => intro Q E p s g h; unfold Sem.wp at h; exact h.elim
  | finish _ => intro Q E p s g h; unfold Sem.wp at h; exact h.elim
  | rule _ k ih => intro Q E p s g h; unfold Sem.wp at h ⊢; exact ih _ g h
  | «at» _ k ih => intro Q E p s g h; unfold Sem.wp at h ⊢; exact ih _ g h
  | load a _ k ih => intro Q E p s g h; unfold Sem.wp at h ⊢; obtain ⟨o, h1, h2⟩ := h; exact ⟨o, h1, ih _ g h2⟩
  | update a _ f k ih => intro Q E p s g h; unfold Sem.wp at h ⊢; exact ⟨h.1, ih _ (g.trans ⟨Nat.le_refl _, by simp only [update_size]; exact Nat.le_refl _⟩) h.2⟩
  | loadIfAlive a k ih => intro Q E p s g h; unfold Sem.wp at h ⊢; exact ih _ g h
  | point _ k ih => intro Q E p s g h; unfold Sem.wp at h ⊢; exact ih _ g h
  | register _ _ _ => intro Q E p s g h; unfold Sem.wp at h; exact h.elim
  | alloc o k ih => intro Q E p s g h; unfold Sem.wp at h ⊢; exact ih _ (g.trans ⟨Nat.le_refl _, by simp [Heap.push]⟩) h
  | fresh k ih => intro Q E p s g h; unfold Sem.wp at h ⊢; exact ih _ (g.trans ⟨Nat.le_succ _, Nat.le_refl _⟩) h
  | ask k ih => intro Q E p s g h; unfold Sem.wp at h ⊢; exact ih _ g h
  | choose src n k ih => intro Q E p s g h; unfold Sem.wp at h ⊢; exact ⟨h.1, ih _ (g.trans ⟨Nat.le_refl _, Nat.le_refl _⟩) h.2⟩
  | os q _ k ih => intro Q E p s g h; unfold Sem.wp at h ⊢; exact ih _ (g.trans ⟨Nat.le_refl _, Nat.le_refl _⟩) h
  | call c hh _ _ k ih =>
    intro Q E p s g h; unfold Sem.wp at h ⊢
    obtain ⟨r, s', h1, h2⟩ := h
    exact ⟨r, s', h1, ih _ (g.trans (runs_grows h1)) h2⟩
  | handled own k ih => intro Q E p s g h; unfold Sem.wp at h ⊢; exact ih _ g h
  | genState gg k ih => intro Q E p s g h; unfold Sem.wp at h ⊢; obtain ⟨st, h1, h2⟩ := h; exact ⟨st, h1, ih _ g h2⟩
  | newGen c k ih => intro Q E p s g h; unfold Sem.wp at h ⊢; exact ih _ (g.trans ⟨Nat.le_refl _, Nat.le_refl _⟩) h
  | resume gg r _ k ih =>
    intro Q E p s g h; unfold Sem.wp at h ⊢
    obtain ⟨res, s', h1, h2⟩ := h
    exact ⟨res, s', h1, ih _ (g.trans (wakes_grows h1)) h2⟩
  | «yield» _ _ _ _ _ => intro Q E p s g h; unfold Sem.wp at h; exact h.elim
  | stack k ih => intro Q E p s g h; unfold Sem.wp at h ⊢; exact ih _ g h
  | fork _ _ _ => intro Q E p s g h; unfold Sem.wp at h; exact h.elim
  | thread k ih => intro Q E p s g h; unfold Sem.wp at h ⊢; exact ih _ g h
  | await _ _ _ _ _ _ => intro Q E p s g h; unfold Sem.wp at h; exact h.elim

theorem wpAny_grows {α : Type} {M : Model} {A : Around} {t : Sem α} {Q : α → Shared → Prop} {E : Value → Shared → Prop} {s : Shared} (h : wpAny M A t Q E s) :
    wpAny M A t (fun a s' => Grows s s' ∧ Q a s') (fun e s' => Grows s s' ∧ E e s') s := fun Γ p hΓ => wp_grows s t (.refl s) (h Γ p hΓ)
theorem codeAny_grows {M : Model} {A : Around} {c : Code} {R : Result → Shared → Prop} {s : Shared} (h : codeAny M A c R s) : codeAny M A c (fun r s' => Grows s s' ∧ R r s') s := fun Γ p h1 h2 => by
  obtain ⟨r, s', h3, h4⟩ := h Γ p h1 h2
  exact ⟨r, s', h3, runs_grows h3, h4⟩
end Mine
end

-- Ctx3
section
open PySem PySem.W PySem.Calls PyProof.Rows
set_option maxRecDepth 100000
namespace Mine
/-- what a python function does: it returns, or it lets a StopIteration out -/
def DoesA (w : World) (need : Nat) (base : Heap) (f : Addr) (args : Args) (V : List (Addr × Obj)) (P : Option Value → List (Addr × Obj) → Prop) : Prop :=
  ∀ ⦃p : Program⦄ ⦃loose : List Str⦄ ⦃mean : ExcName → Option Value⦄ ⦃mg mb : Str → Option Value⦄ ⦃dp un : Nat⦄ ⦃gd : Option (List Code)⦄ ⦃outer : List Env⦄ ⦃g : Heap⦄ ⦃s : Shared⦄ ⦃R : Result → Shared → Prop⦄,
    Stand w p loose mean mg mb (kAt dp un gd outer) base outer g → Sits g s.heap V → dp + need < recursionLimit → un + 10 * need < cLine →
    (∀ g' h' tk' v V', P (some v) V' → KtsTurn (outer.filterMap (·.frame)) g g' → Sits g' h' V' → R (.ok (.ret v)) { s with heap := h', toks := tk' }) →
    (∀ h' tk' e V', P none V' → Fails base g outer e V' h' → R (.error (.ref e)) { s with heap := h', toks := tk' }) →
    codeAny (model PG w) (kAt dp un gd outer) (.call (.ref f) args) R s
abbrev Does (w : World) (need : Nat) (base : Heap) (f : Addr) (args : List Value) (V : List (Addr × Obj)) (P : Option Value → List (Addr × Obj) → Prop) : Prop := DoesA w need base f ⟨args, []⟩ V P

/-- a StopIteration out of a call stands at this frame -/
def Owes (base g : Heap) (L : Addr) (m : Str → Option Value) (outer' : List Env) (e : Addr) (W : List (Addr × Obj)) (h' : Heap) : Prop :=
  ∃ g₂ V', Fr g L g₂ m ∧ Fails base g₂ outer' e V' h' ∧ ∀ q ∈ W, g.get? q.1 = none ∧ (q ∈ V' ∨ (g₂.get? q.1 = some q.2 ∧ q.1 ∉ outer'.filterMap (·.frame)))

section
variable {s : Shared} {w : World} {p : Program} {loose : List Str} {mean : ExcName → Option Value} {mg mb : Str → Option Value} {A₀ A : Around} {base h₀ g g' g'' h h' : Heap} {outer : List Env} {L a : Addr} {m : Str → Option Value} {cn : Str} {cs : Scope} {ccd : Value} {V V' W : List (Addr × Obj)} {fs : List Addr}
  {E : Value → Shared → Prop}

theorem stays_of (B : Below A base outer g) (F : Fr g L h m) : base.StaysIn h := fun b o e => F.keep b o (B.stays b o e)

theorem leave_owes {M : Model} {s' : Shared} {e : Addr} {Q : Unit → Shared → Prop} {name : Str} {scope : Scope} {cd : Value}
    (K : Below A base outer g) (O : Owes base g L m (envOf name scope L a cd :: outer) e W s'.heap)
    (hQ : ∀ h', Fails base g outer e W h' → Q () { s' with heap := h' }) :
    wpAny M (A.deeper (envOf name scope L a cd)) (leaving (envOf name scope L a cd) (.ref e)) Q E s' := by
  obtain ⟨g₂, V', F, ⟨⟨t, ⟨B, hB, hBG, hl, hfl, hnew⟩, htup⟩, hU, _⟩, hW⟩ := O
  obtain ⟨oL, es, n, ho, hdt, _⟩ := F.ns
  exact wpAny_leaves_onW (Around.frames_deeper K.stack) rfl hfl fun h' x1 x2 =>
    have up := hU.trans x2
    hQ h' ⟨⟨t, ⟨B, hB, fun b o q nm => hBG b o (F.keep b o q) (fun hm => by
      rcases kts_mem hm with z | z
      · rw [z, kts_self F] at q
        cases q
      · exact nm z), fun q hq => ⟨(by
        rcases (hW q hq).2 with z | z
        · exact (hl q z).1
        · exact hBG _ _ z.1 z.2), (hW q hq).1, fresh_of_stays K.stays (hW q hq).1⟩, x1, hnew⟩, htup.of_slots x2⟩, (Heap.UpToSlots.of_keeps F.keep).trans up, by
      obtain ⟨sl, hs⟩ := up L oL ho (fun vs => by rw [hdt]; exact fun z => nomatch z)
      exact Nat.le_of_lt (Nat.lt_of_le_of_lt F.above (Heap.lt_size hs))⟩

theorem use_does {need : Nat} {f : Addr} {args : List Value} {kw : List (Str × Value)} {P : Option Value → List (Addr × Obj) → Prop} {W₀ : List (Addr × Obj)} {Q : Value → Shared → Prop} {dp un : Nat} {gd : Option (List Code)}
    (C : DoesA w need base f ⟨args, kw⟩ V P) (B : Below A₀ base outer h₀) (F : Fr h₀ L s.heap m) (X₀ : (hd.heap_39 w.params).In h₀) (N : News h₀ L s.heap W₀) (T : Top p loose mean mg mb h₀) (XB : (hd.heap_39 w.params).In base) (TB : Top p loose mean mg mb base)
    (D : KtsDicts (outer.filterMap (·.frame)) h₀) (hA : A = kAt dp un gd (envOf cn cs L a ccd :: outer)) (hck : cs.kind = .function)
    (hV : ∀ q ∈ V, q ∈ W₀) (hW : ∀ q ∈ W, q ∈ W₀) (hN : ∀ q ∈ W, ∀ r ∈ V, q.1 ≠ r.1) (hdp : dp + need < recursionLimit) (hu : un + 10 * need < cLine)
    (hQ : ∀ h₀' h' tk' v V', P (some v) V' → KtsTurn (outer.filterMap (·.frame)) h₀ h₀' → Fr h₀' L h' m → News h₀' L h' (V' ++ W) → (∀ q ∈ W, ∀ r ∈ V', q.1 ≠ r.1) → Below A₀ base outer h₀' → (hd.heap_39 w.params).In h₀' → Top p loose mean mg mb h₀' → KtsDicts (outer.filterMap (·.frame)) h₀' →
      Q v { s with heap := h', toks := tk' })
    (hE : ∀ h' tk' e V', P none V' → Owes base h₀ L m (envOf cn cs L a ccd :: outer) e (V' ++ W) h' → E (.ref e) { s with heap := h', toks := tk' }) :
    wpAny (model PG w) A (call (.ref f) args kw) Q E s := by
  subst hA
  refine wpAny_call ?_
  have FF := F
  obtain ⟨gg, S', V1, Fg, hw, back⟩ := ground (A := kAt dp un gd (envOf cn cs L a ccd :: outer)) B F X₀ N T XB TB D rfl hck hV hW hN
  refine C S' V1 hdp hu (fun g' h' tk' v V' hP T' SV => ?_) (fun h' tk' e V' hP Z => ?_)
  · obtain ⟨h₀', T₂, F', N', B', X', T'', D'⟩ := back g' h' V' T' SV
    refine hQ h₀' h' tk' v V' hP T₂ F' N' (fun q hq r hr z => ?_) B' X' T'' D'
    obtain ⟨sl, hs⟩ := T'.up (hw q hq)
    have := (SV.has r hr).2
    rw [← z, hs] at this; cases this
  · refine hE h' tk' e V' hP ⟨gg, V', Fg, Z, fun q hq => ?_⟩
    rcases List.mem_append.mp hq with hq | hq
    · obtain ⟨⟨t, ⟨B', _, _, hl, _, _⟩, _⟩, _, _⟩ := Z
      refine ⟨?_, .inl hq⟩
      cases z : h₀.get? q.1 with
      | none => rfl
      | some o => have := (hl q hq).2.1; rw [Fg.keep _ _ z] at this; cases this
    · have n0 := N q (hW q hq)
      refine ⟨n0.2.2, .inr ⟨hw q hq, fun hm => ?_⟩⟩
      rcases kts_mem hm with z | z
      · exact n0.2.1 z
      · obtain ⟨_, o, ho, _⟩ := B.frames.mem z
        rw [n0.2.2] at ho; cases ho
end
end Mine
end

-- BR
section
open PySem PySem.W PySem.Calls PyProof.Rows
set_option maxRecDepth 100000
namespace Mine
section
variable {s : Shared} {w : World} {p : Program} {loose : List Str} {mean : ExcName → Option Value} {mg mb : Str → Option Value} {A₀ A : Around} {base h₀ g g' g'' h h' : Heap} {outer : List Env} {L a : Addr} {m : Str → Option Value} {cn : Str} {cs : Scope} {ccd : Value} {V V' W : List (Addr × Obj)} {fs : List Addr}
  {E : Value → Shared → Prop}
/-- a wider base: all that is elder and no frame -/
theorem Stand.rebase (S : Stand w p loose mean mg mb A base outer g) :
    ∃ b₂ : Heap, Stand w p loose mean mg mb A b₂ outer g ∧ base.StaysIn b₂ ∧ ∀ b o, g.get? b = some o → b ∉ outer.filterMap (·.frame) → b₂.get? b = some o := by
  have st : base.StaysIn (hideAll g (outer.filterMap (·.frame))) := fun b o q => hideAll_get _ (S.B.stays b o q) fun hm => by
    rw [(S.B.frames.mem hm).1] at q; cases q
  have hin : ∀ env ∈ outer, ∀ b, env.frame = some b → b ∈ outer.filterMap (·.frame) := fun env he b hb => List.mem_filterMap.mpr ⟨env, he, hb⟩
  exact ⟨_, ⟨⟨S.B.stack, fun b o q => of_hideAll _ q, funFrames_hide S.B.frames hin⟩, S.X, S.T, S.XB.keeps (fun b o e => st b o e), S.TB.keeps (fun b o e => st b o e), S.D⟩, st, fun b o e nm => hideAll_get _ e nm⟩

/-- from a python frame to the setting of its calls, with a base that knows the makes W; and back -/
theorem bridge {W₀ : List (Addr × Obj)} (B : Below A₀ base outer h₀) (F : Fr h₀ L s.heap m) (X₀ : (hd.heap_39 w.params).In h₀) (N : News h₀ L s.heap W₀) (T : Top p loose mean mg mb h₀) (XB : (hd.heap_39 w.params).In base) (TB : Top p loose mean mg mb base)
    (D : KtsDicts (outer.filterMap (·.frame)) h₀) (hA : A.frames = some (envOf cn cs L a ccd :: outer)) (hck : cs.kind = .function)
    (hV : ∀ q ∈ V, q ∈ W₀) (hW : ∀ q ∈ W, q ∈ W₀) (hN : ∀ q ∈ W, ∀ r ∈ V, q.1 ≠ r.1) :
    ∃ g b₂, Stand w p loose mean mg mb A b₂ (envOf cn cs L a ccd :: outer) g ∧ Sits g s.heap V ∧ base.StaysIn b₂ ∧ (∀ q ∈ W, b₂.get? q.1 = some q.2) ∧ 
      ∀ g' h' V', KtsTurn ((envOf cn cs L a ccd :: outer).filterMap (·.frame)) g g' → Sits g' h' V' →
        ∃ h₀', KtsTurn (outer.filterMap (·.frame)) h₀ h₀' ∧ Fr h₀' L h' m ∧ News h₀' L h' (V' ++ W) ∧ Below A₀ base outer h₀' ∧ (hd.heap_39 w.params).In h₀' ∧ Top p loose mean mg mb h₀' ∧ KtsDicts (outer.filterMap (·.frame)) h₀' ∧ ∀ q ∈ W, ∀ r ∈ V', q.1 ≠ r.1 := by
  obtain ⟨g, S, VV, Fg, hw, back⟩ := ground (A := A) B F X₀ N T XB TB D hA hck hV hW hN
  obtain ⟨b₂, S₂, st, all⟩ := S.rebase
  refine ⟨g, b₂, S₂, VV, st, fun q hq => all _ _ (hw q hq) fun hm => ?_, fun g' h' V' T' S' => ?_⟩
  · have n0 := N q (hW q hq)
    rcases kts_mem hm with z | z
    · exact n0.2.1 z
    · obtain ⟨_, o, ho, _⟩ := B.frames.mem z
      rw [n0.2.2] at ho; cases ho
  · obtain ⟨h₀', T₂, F', N', B', X', T'', D'⟩ := back g' h' V' T' S'
    refine ⟨h₀', T₂, F', N', B', X', T'', D', fun q hq r hr z => ?_⟩
    obtain ⟨sl, hs⟩ := T'.up (hw q hq)
    have := (S'.has r hr).2
    rw [← z, hs] at this; cases this
end
end Mine
end

-- TS1
section
set_option maxRecDepth 100000
open PySem PyProof.Rows
namespace Mine
theorem or_el5 {μ ρ α0 α1 α2 α3 α4 : Type} {c : Option μ × ρ} {k : α0 → α1 → α2 → α3 → α4 → Option μ × ρ} {M : μ → Prop} {R : α0 → α1 → α2 → α3 → α4 → Prop} {G : Prop} (h : (∃ res, c.1 = some res ∧ M res) ∨ ∃ a0 a1 a2 a3 a4, c = k a0 a1 a2 a3 a4 ∧ R a0 a1 a2 a3 a4) (K1 : ∀ res, c.1 = some res → M res → G) (K2 : ∀ a0 a1 a2 a3 a4, c = k a0 a1 a2 a3 a4 → R a0 a1 a2 a3 a4 → G) : G := by
  rcases h with ⟨res, e, h⟩ | ⟨a0, a1, a2, a3, a4, e, h⟩
  · exact K1 res e h
  · exact K2 a0 a1 a2 a3 a4 e h
theorem or_el6 {μ ρ α0 α1 α2 α3 α4 α5 : Type} {c : Option μ × ρ} {k : α0 → α1 → α2 → α3 → α4 → α5 → Option μ × ρ} {M : μ → Prop} {R : α0 → α1 → α2 → α3 → α4 → α5 → Prop} {G : Prop} (h : (∃ res, c.1 = some res ∧ M res) ∨ ∃ a0 a1 a2 a3 a4 a5, c = k a0 a1 a2 a3 a4 a5 ∧ R a0 a1 a2 a3 a4 a5) (K1 : ∀ res, c.1 = some res → M res → G) (K2 : ∀ a0 a1 a2 a3 a4 a5, c = k a0 a1 a2 a3 a4 a5 → R a0 a1 a2 a3 a4 a5 → G) : G := by
  rcases h with ⟨res, e, h⟩ | ⟨a0, a1, a2, a3, a4, a5, e, h⟩
  · exact K1 res e h
  · exact K2 a0 a1 a2 a3 a4 a5 e h
theorem el_g {γ σ : Type} {f : γ → σ} {R : γ → Prop} {G : Prop} {st : σ} (h : ∃ g, st = f g ∧ R g) (K : ∀ g, st = f g → R g → G) : G := by
  obtain ⟨g, e, h⟩ := h
  exact K g e h
theorem elg4 {γ σ ρ α0 α1 α2 α3 : Type} {f : γ → σ} {k : α0 → α1 → α2 → α3 → ρ} {R : γ → α0 → α1 → α2 → α3 → Prop} {G : Prop} {st : σ} {x : ρ} (h : ∃ g, st = f g ∧ ∃ a0 a1 a2 a3, x = k a0 a1 a2 a3 ∧ R g a0 a1 a2 a3) (K : ∀ g a0 a1 a2 a3, st = f g → x = k a0 a1 a2 a3 → R g a0 a1 a2 a3 → G) : G := by
  obtain ⟨g, e1, a0, a1, a2, a3, e2, h⟩ := h
  exact K g a0 a1 a2 a3 e1 e2 h
theorem elg6 {γ σ ρ α0 α1 α2 α3 α4 α5 : Type} {f : γ → σ} {k : α0 → α1 → α2 → α3 → α4 → α5 → ρ} {R : γ → α0 → α1 → α2 → α3 → α4 → α5 → Prop} {G : Prop} {st : σ} {x : ρ} (h : ∃ g, st = f g ∧ ∃ a0 a1 a2 a3 a4 a5, x = k a0 a1 a2 a3 a4 a5 ∧ R g a0 a1 a2 a3 a4 a5) (K : ∀ g a0 a1 a2 a3 a4 a5, st = f g → x = k a0 a1 a2 a3 a4 a5 → R g a0 a1 a2 a3 a4 a5 → G) : G := by
  obtain ⟨g, e1, a0, a1, a2, a3, a4, a5, e2, h⟩ := h
  exact K g a0 a1 a2 a3 a4 a5 e1 e2 h
theorem el5 {σ ρ α0 α1 α2 α3 α4 : Type} {f : σ} {k : α0 → α1 → α2 → α3 → α4 → ρ} {R : α0 → α1 → α2 → α3 → α4 → Prop} {G : Prop} {st : σ} {x : ρ} (h : st = f ∧ ∃ a0 a1 a2 a3 a4, x = k a0 a1 a2 a3 a4 ∧ R a0 a1 a2 a3 a4) (K : ∀ a0 a1 a2 a3 a4, st = f → x = k a0 a1 a2 a3 a4 → R a0 a1 a2 a3 a4 → G) : G := by
  obtain ⟨e1, a0, a1, a2, a3, a4, e2, h⟩ := h
  exact K a0 a1 a2 a3 a4 e1 e2 h

abbrev sst (κ : SortKind) (a : Array Keyed) (pd : Array (Nat × Nat × Nat)) (g : Nat) : SortSt := SortSt.mk' κ a pd g none

def kk (r : Keyed → Nat) (xs : Array Keyed) (i : Nat) : Nat := match xs[i]? with
  | some p => r p
  | none => 0
theorem kk_congr {r : Keyed → Nat} {xs ys : Array Keyed} {i j : Nat} (h : xs[i]? = ys[j]?) : kk r xs i = kk r ys j := by unfold kk; rw [h]
theorem kk_at {r : Keyed → Nat} {xs : Array Keyed} {i : Nat} (h : i < xs.size) : kk r xs i = r xs[i] := by unfold kk; rw [getElem?_pos xs i h]

/-- sorted (strictly) from lo up to hi -/
def Up (r : Keyed → Nat) (xs : Array Keyed) (lo hi : Nat) : Prop := ∀ i j, lo ≤ i → i < j → j < hi → kk r xs i < kk r xs j
def Down (r : Keyed → Nat) (xs : Array Keyed) (lo hi : Nat) : Prop := ∀ i j, lo ≤ i → i < j → j < hi → kk r xs j < kk r xs i

/-- the items: compared by the rank, all unlike -/
structure Items (r : Keyed → Nat) (P : Keyed → Prop) (xs : Array Keyed) : Prop where
  all : ∀ p ∈ xs.toList, P p
  nodup : (xs.toList.map r).Nodup
theorem Items.perm {r : Keyed → Nat} {P : Keyed → Prop} {xs ys : Array Keyed} (h : Items r P xs) (p : ys.Perm xs) : Items r P ys := by
  have p' := Array.perm_iff_toList_perm.mp p
  exact ⟨fun q hq => h.all q (p'.mem_iff.mp hq), (p'.map r).nodup_iff.mpr h.nodup⟩
theorem Items.at {r : Keyed → Nat} {P : Keyed → Prop} {xs : Array Keyed} (h : Items r P xs) {i : Nat} (hi : i < xs.size) : P xs[i] := h.all _ (by simp)
theorem Items.ne {r : Keyed → Nat} {P : Keyed → Prop} {xs : Array Keyed} (h : Items r P xs) {i j : Nat} (hi : i < xs.size) (hj : j < xs.size) (hij : i ≠ j) : kk r xs i ≠ kk r xs j := by
  rw [kk_at hi, kk_at hj]
  intro e
  apply hij
  have hi' : i < (xs.toList.map r).length := by simpa using hi
  have hj' : j < (xs.toList.map r).length := by simpa using hj
  have := (List.getElem_inj (xs := xs.toList.map r) (i := i) (j := j) (h₀ := hi') (h₁ := hj') h.nodup).mp (by simpa using e)
  exact this

def Answers (prog : Program) (w : World) (A : Around) (s : Shared) (κ : SortKind) (r : Keyed → Nat) (P : Keyed → Prop) : Prop :=
  ∀ x y, P x → P y → wpAny (model prog w) A (keyLt' κ x.1 y.1) (fun b s' => s' = s ∧ b = decide (r x < r y)) (fun _ _ => False) s

section
variable {prog : Program} {w : World} {A : Around} {E : Value → Shared → Prop} {s : Shared} {κ : SortKind} {r : Keyed → Nat} {P : Keyed → Prop} {a : Array Keyed} {pd : Array (Nat × Nat × Nat)} {g : Nat}

theorem ts_lt (hA : Answers prog w A s κ r P) {x y : Keyed} {Q : Option Bool → SortSt → Prop} (hx : P x) (hy : P y) (h : Q (some (decide (r x < r y))) (sst κ a pd g)) :
    wpS (model prog w) A E s (lt' x y) Q (sst κ a pd g) := by
  rw [lt'_eq]
  refine wpS_bind (wpS_get ?_)
  refine wpS_bind (wpS_lift (wpAny_attempt (wpAny_mono (hA x y hx hy) (fun b s' hb => ?_) fun _ _ x => x.elim)))
  obtain ⟨rfl, rfl⟩ := hb
  exact ⟨rfl, wpS_pure h⟩

theorem ts_elem {arr : Array Keyed} {i : Nat} {Q : Keyed → SortSt → Prop} {st : SortSt} (hi : i < arr.size) (h : Q arr[i] st) : wpS (model prog w) A E s (elem' arr i) Q st := by
  rw [elem'_eq, getElem?_pos arr i hi]
  exact wpS_pure h

theorem ts_ltAt (hA : Answers prog w A s κ r P) (hI : Items r P a) {i j : Nat} {Q : Option Bool → SortSt → Prop} (hi : i < a.size) (hj : j < a.size) (h : Q (some (decide (kk r a i < kk r a j))) (sst κ a pd g)) :
    wpS (model prog w) A E s (ltAt' i j) Q (sst κ a pd g) := by
  rw [ltAt'_eq]
  refine wpS_bind (wpS_get ?_)
  refine wpS_bind (ts_elem hi (wpS_bind (ts_elem hj ?_)))
  rw [kk_at hi, kk_at hj] at h
  exact ts_lt hA (hI.at hi) (hI.at hj) h

theorem ts_reverse {i j : Nat} {Q : Unit → SortSt → Prop} (h : Q () (sst κ (mirror a i j ((j - i) / 2)) pd g)) : wpS (model prog w) A E s (reverseSlice' i j) Q (sst κ a pd g) := by
  rw [reverseSlice'_eq]; exact wpS_modify h
theorem ts_move {k l : Nat} {Q : Unit → SortSt → Prop} (h : Q () (sst κ (bubble a k (k - l)) pd g)) : wpS (model prog w) A E s (moveDown' k l) Q (sst κ a pd g) := by
  rw [moveDown'_eq]; exact wpS_modify h

theorem kk_mirror {i j : Nat} (hj : j ≤ a.size) (k : Nat) : kk r (mirror a i j ((j - i) / 2)) k = if i ≤ k ∧ k < j then kk r a (i + j - 1 - k) else kk r a k := by
  have e := getElem?_mirror_all (i := i) hj k
  by_cases h1 : i ≤ k ∧ k < j
  · rw [if_pos h1] at e ⊢; exact kk_congr e
  · rw [if_neg h1] at e ⊢; exact kk_congr e

theorem kk_bubble {src d : Nat} (hs : src < a.size) (hd : d ≤ src) (k : Nat) : kk r (bubble a src d) k = if k = src - d then kk r a src else if src - d < k ∧ k ≤ src then kk r a (k - 1) else kk r a k := by
  have e := getElem?_bubble hs d hd k
  by_cases h1 : k = src - d
  · rw [if_pos h1] at e ⊢; exact kk_congr e
  · rw [if_neg h1] at e ⊢
    by_cases h2 : src - d < k ∧ k ≤ src
    · rw [if_pos h2] at e ⊢; exact kk_congr e
    · rw [if_neg h2] at e ⊢; exact kk_congr e

/-- b is a but for the places lo .. hi - 1, where the same things stand otherwise -/
structure Within (a b : Array Keyed) (lo hi : Nat) : Prop where
  perm : b.Perm a
  off : ∀ k, k < lo ∨ hi ≤ k → b[k]? = a[k]?
theorem Within.refl (a : Array Keyed) (lo hi : Nat) : Within a a lo hi := ⟨Array.Perm.refl _, fun _ _ => rfl⟩
theorem Within.trans {a b c : Array Keyed} {lo hi : Nat} (h : Within a b lo hi) (k : Within b c lo hi) : Within a c lo hi := ⟨k.perm.trans h.perm, fun i hi => (k.off i hi).trans (h.off i hi)⟩
theorem Within.size {a b : Array Keyed} {lo hi : Nat} (h : Within a b lo hi) : b.size = a.size := h.perm.size_eq
theorem Within.mirror {i j lo hi : Nat} (hj : j ≤ a.size) (h1 : lo ≤ i) (h2 : j ≤ hi) : Within a (mirror a i j ((j - i) / 2)) lo hi :=
  ⟨mirror_perm _ _ _ _, fun k hk => by rw [getElem?_mirror_all hj, if_neg (by lia)]⟩
theorem Within.bubble {src d lo hi : Nat} (hs : src < a.size) (hd : d ≤ src) (h1 : lo ≤ src - d) (h2 : src < hi) : Within a (bubble a src d) lo hi :=
  ⟨bubble_perm _ _ _, fun k hk => by rw [getElem?_bubble hs d hd, if_neg (by lia), if_neg (by lia)]⟩

theorem fuel_step {N i d d' : Nat} (h : d ≤ N - i) (h' : d' < d) : d' ≤ N - (i + 1) := by rw [Nat.sub_add_eq]; exact Nat.le_sub_of_add_le (Nat.le_trans h' h)
theorem fuel_end {l u N : Nat} (h : l ≤ u) (h' : u - l ≤ N - max 0 N) : l = u := by
  rw [Nat.zero_max, Nat.sub_self] at h'
  exact Nat.le_antisymm h (Nat.le_of_sub_eq_zero (Nat.le_zero.mp h'))
theorem mid_add {l u : Nat} (h : ¬ l ≥ u) : l ≤ (l + u) / 2 ∧ (l + u) / 2 < u := by omega
theorem mid_off {l u : Nat} (h : ¬ l ≥ u) : l ≤ l + (u - l) / 2 ∧ l + (u - l) / 2 < u := by omega
theorem mid_lo {l m u : Nat} (h1 : l ≤ m) (h2 : m < u) : m - l < u - l := Nat.sub_lt_sub_right h1 h2
theorem mid_hi {l m u : Nat} (h1 : l ≤ m) (h2 : m < u) : u - (m + 1) < u - l := Nat.sub_lt_sub_left (Nat.lt_of_le_of_lt h1 h2) (Nat.lt_succ_of_le h1)
/-- what stands where after one thing was moved down to its place -/
theorem bubble_up {lo k l n : Nat} {a' : Array Keyed} (hk : lo + k < a'.size) (hlk : l ≤ k) (hs' : Up r a' lo (lo + k)) (hlo : ∀ i, i < l → kk r a' (lo + i) < kk r a' (lo + k)) (hhi : ∀ i, l ≤ i → i < k → kk r a' (lo + k) < kk r a' (lo + i)) (hn : n = k + 1) :
    Up r (bubble a' (lo + k) (lo + k - (lo + l))) lo (lo + n) := by
  subst hn
  have hd : lo + k - (lo + l) ≤ lo + k := Nat.sub_le _ _
  have et : lo + k - (lo + k - (lo + l)) = lo + l := Nat.sub_sub_self (Nat.add_le_add_left hlk lo)
  have V := fun p => kk_bubble (r := r) (a := a') hk hd p
  simp only [et] at V
  have V1 : ∀ p, p < l → kk r (bubble a' (lo + k) (lo + k - (lo + l))) (lo + p) = kk r a' (lo + p) := fun p hp => by
    rw [V, if_neg (Nat.ne_of_lt (Nat.add_lt_add_left hp lo)), if_neg (fun q => Nat.lt_asymm q.1 (Nat.add_lt_add_left hp lo))]
  have V2 : kk r (bubble a' (lo + k) (lo + k - (lo + l))) (lo + l) = kk r a' (lo + k) := by rw [V, if_pos rfl]
  have V3 : ∀ p, l ≤ p → p < k → kk r (bubble a' (lo + k) (lo + k - (lo + l))) (lo + (p + 1)) = kk r a' (lo + p) := fun p h1 h2 => by
    have q : lo + l < lo + (p + 1) := Nat.add_lt_add_left (Nat.lt_succ_of_le h1) lo
    rw [V, if_neg (Nat.ne_of_gt q), if_pos ⟨q, Nat.add_le_add_left h2 lo⟩]
    rfl
  clear V et hd
  intro i j hil hij hj
  obtain ⟨i, rfl⟩ := Nat.le.dest hil
  obtain ⟨j, rfl⟩ := Nat.le.dest (Nat.le_trans hil (Nat.le_of_lt hij))
  have hij := Nat.lt_of_add_lt_add_left hij
  have hj := Nat.le_of_lt_succ (Nat.lt_of_add_lt_add_left hj)
  have S : ∀ p q, p < q → q < k → kk r a' (lo + p) < kk r a' (lo + q) := fun p q h1 h2 => hs' _ _ (Nat.le_add_right _ _) (Nat.add_lt_add_left h1 lo) (Nat.add_lt_add_left h2 lo)
  rcases Nat.lt_or_ge j l with c | c
  · rw [V1 i (Nat.lt_trans hij c), V1 j c]; exact S _ _ hij (Nat.lt_of_lt_of_le c hlk)
  rcases Nat.eq_or_lt_of_le c with rfl | c
  · rw [V1 i hij, V2]; exact hlo i hij
  obtain ⟨j, rfl⟩ := Nat.exists_eq_succ_of_ne_zero (Nat.ne_zero_of_lt c)
  have c := Nat.le_of_lt_succ c
  rw [V3 j c hj]
  rcases Nat.lt_trichotomy i l with e | rfl | e
  · rw [V1 i e]; exact S _ _ (Nat.lt_of_lt_of_le e c) hj
  · rw [V2]; exact hhi j c hj
  · obtain ⟨i, rfl⟩ := Nat.exists_eq_succ_of_ne_zero (Nat.ne_zero_of_lt e)
    have q := Nat.lt_of_succ_lt_succ hij
    rw [V3 i (Nat.le_of_lt_succ e) (Nat.lt_trans q hj)]; exact S _ _ q hj

theorem ts_binary (hA : Answers prog w A s κ r P) (hI : Items r P a) {lo n ok : Nat} {Q : Bool → SortSt → Prop} (hn : lo + n ≤ a.size) (hok : ok ≤ n) (hs : Up r a lo (lo + ok))
    (h : ∀ a', Within a a' lo (lo + n) → Up r a' lo (lo + n) → Q true (sst κ a' pd g)) : wpS (model prog w) A E s (binarySort' lo n ok) Q (sst κ a pd g) := by
  rw [binarySort'_eq]
  refine wpS_bind (wpS_mono (wpS_forRange (I := fun k c st' => c = (none, ()) ∧ ∃ a', st' = sst κ a' pd g ∧ Within a a' lo (lo + n) ∧ Up r a' lo (lo + min k n))
    (Q := fun c st' => c = (none, ()) ∧ ∃ a', st' = sst κ a' pd g ∧ Within a a' lo (lo + n) ∧ Up r a' lo (lo + n)) ?step ?fin ?init) ?post)
  case post =>
    rintro c st' ⟨rfl, a', rfl, hW, hs'⟩
    exact wpS_pure (h a' hW hs')
  case init => exact ⟨rfl, a, rfl, .refl _ _ _, fun i j h1 h2 h3 => by
    by_cases h0 : ok = 0
    · lia
    · exact hs i j h1 h2 (by lia)⟩
  case fin =>
    rintro c st' ⟨hc, a', e, hW, hs'⟩
    refine ⟨hc, a', e, hW, ?_⟩
    rwa [Nat.min_eq_right (Nat.le_max_right _ _)] at hs'
  case step =>
    rintro k c st' hak hkn ⟨rfl, a', rfl, hW, hs'⟩
    rw [Nat.min_eq_left (Nat.le_of_lt hkn)] at hs'
    have hI' := hI.perm hW.perm
    have hk : lo + k < a'.size := by rw [hW.size]; exact Nat.lt_of_lt_of_le (Nat.add_lt_add_left hkn lo) hn
    refine wpS_bind (wpS_mono (wpS_forRange (I := fun x c st'' => st'' = sst κ a' pd g ∧ ∃ l u, c = (none, l, u) ∧ l ≤ u ∧ u ≤ k ∧ u - l ≤ k - x ∧
        (∀ i, i < l → kk r a' (lo + i) < kk r a' (lo + k)) ∧ (∀ i, u ≤ i → i < k → kk r a' (lo + k) < kk r a' (lo + i)))
      (Q := fun c st'' => st'' = sst κ a' pd g ∧ ∃ l u, c = (none, l, u) ∧ l ≤ k ∧
        (∀ i, i < l → kk r a' (lo + i) < kk r a' (lo + k)) ∧ (∀ i, l ≤ i → i < k → kk r a' (lo + k) < kk r a' (lo + i))) ?istep ?ifin ?iinit) ?ipost)
    case iinit => exact ⟨rfl, 0, k, rfl, Nat.zero_le _, Nat.le_refl _, Nat.le_refl _, fun i hi => absurd hi (Nat.not_lt_zero _), fun i h1 h2 => absurd h2 (Nat.not_lt_of_le h1)⟩
    case ifin =>
      rintro c st'' ⟨e, l, u, rfl, hlr, hrk, hm, hlo, hhi⟩
      have : l = u := fuel_end hlr hm
      subst this
      exact ⟨e, l, l, rfl, hrk, hlo, hhi⟩
    case istep =>
      rintro x c st'' _ hxk ⟨rfl, l, u, rfl, hlr, hrk, hm, hlo, hhi⟩
      dsimp only
      by_cases hge : l ≥ u
      · rw [if_pos hge]
        have : l = u := Nat.le_antisymm hlr hge
        subst this
        exact wpS_pure ⟨rfl, l, l, rfl, hrk, hlo, hhi⟩
      · rw [if_neg hge]
        obtain ⟨hm1, hm2⟩ := mid_add hge
        generalize (l + u) / 2 = m at *
        have hmk := Nat.lt_of_lt_of_le hm2 hrk
        have hq := Nat.add_lt_add_left hmk lo
        refine wpS_bind (ts_ltAt hA hI' hk (Nat.lt_trans hq hk) ?_)
        by_cases hless : kk r a' (lo + k) < kk r a' (lo + m)
        · simp only [hless, decide_true, if_true]
          refine wpS_pure ⟨rfl, l, m, rfl, hm1, Nat.le_of_lt hmk, fuel_step hm (mid_lo hm1 hm2), hlo, fun i h1 h2 => ?_⟩
          by_cases e : i = m
          · rw [e]; exact hless
          · exact Nat.lt_trans hless (hs' (lo + m) (lo + i) (Nat.le_add_right _ _) (Nat.add_lt_add_left (Nat.lt_of_le_of_ne h1 (Ne.symm e)) lo) (Nat.add_lt_add_left h2 lo))
        · simp only [hless, decide_false, Bool.false_eq_true, if_false]
          refine wpS_pure ⟨rfl, m + 1, u, rfl, hm2, hrk, fuel_step hm (mid_hi hm1 hm2), fun i h1 => ?_, hhi⟩
          have hne := hI'.ne (i := lo + k) (j := lo + m) hk (Nat.lt_trans hq hk) (Nat.ne_of_gt hq)
          have hlt : kk r a' (lo + m) < kk r a' (lo + k) := Nat.lt_of_le_of_ne (Nat.le_of_not_lt hless) (Ne.symm hne)
          by_cases e : i = m
          · rw [e]; exact hlt
          · exact Nat.lt_trans (hs' (lo + i) (lo + m) (Nat.le_add_right _ _) (Nat.add_lt_add_left (Nat.lt_of_le_of_ne (Nat.le_of_lt_succ h1) e) lo) hq) hlt
    case ipost =>
      rintro c st'' ⟨rfl, l, u, rfl, hlk, hlo, hhi⟩
      show wpS _ _ _ _ (do moveDown' (lo + k) (lo + l); pure (ForInStep.yield (none, ()))) _ _
      have hd : lo + k - (lo + l) ≤ lo + k := Nat.sub_le _ _
      refine wpS_bind (ts_move (wpS_pure ⟨rfl, _, rfl, hW.trans (Within.bubble hk hd (by rw [Nat.sub_sub_self (Nat.add_le_add_left hlk lo)]; exact Nat.le_add_right _ _) (Nat.add_lt_add_left hkn lo)), ?_⟩))
      exact bubble_up hk hlk hs' hlo hhi (Nat.min_eq_left hkn)

abbrev AscS := Option (Option Nat) × Nat
theorem ts_asc (hA : Answers prog w A s κ r P) (hI : Items r P a) {lo b nrem : Nat} {Q : AscS → SortSt → Prop} {f : Nat → AscS → StateT SortSt Sem (ForInStep AscS)}
    (hf : ∀ x n, f x (none, n) = (do
      let __x ← ltAt' (lo + n) (lo + n - 1)
      match __x with
      | some smaller => if smaller = true then pure (ForInStep.done (none, n)) else pure (ForInStep.yield (none, n + 1))
      | _ => pure (ForInStep.done (some none, n))))
    (hn : lo + nrem ≤ a.size) (hb : 1 ≤ b) (hbn : b ≤ nrem) (hs : Up r a lo (lo + b))
    (h : ∀ n, b ≤ n → n ≤ nrem → Up r a lo (lo + n) → (n = nrem ∨ kk r a (lo + n) < kk r a (lo + n - 1)) → Q (none, n) (sst κ a pd g)) :
    wpS (model prog w) A E s (forIn [b:nrem] ((none, b) : AscS) f) Q (sst κ a pd g) := by
  refine wpS_forRange (I := fun x c st' => st' = sst κ a pd g ∧ c = (none, x) ∧ Up r a lo (lo + x)) ?step ?fin ⟨rfl, rfl, hs⟩
  case fin =>
    rintro c st' ⟨rfl, rfl, hs'⟩
    rw [Nat.max_eq_right hbn] at hs' ⊢
    exact h nrem hbn (Nat.le_refl _) hs' (.inl rfl)
  case step =>
    rintro x c st' hax hxn ⟨rfl, rfl, hs'⟩
    rw [hf]
    have hlx := Nat.lt_of_lt_of_le (Nat.add_lt_add_left hxn lo) hn
    have hp := Nat.sub_lt (Nat.lt_of_lt_of_le (Nat.lt_of_lt_of_le Nat.zero_lt_one (Nat.le_trans hb hax)) (Nat.le_add_left x lo)) Nat.one_pos
    have hpx := Nat.lt_trans hp hlx
    refine wpS_bind (ts_ltAt hA hI hlx hpx ?_)
    by_cases hless : kk r a (lo + x) < kk r a (lo + x - 1)
    · simp only [hless, decide_true, if_true]
      exact wpS_pure (h x hax (Nat.le_of_lt hxn) hs' (.inr hless))
    · simp only [hless, decide_false, Bool.false_eq_true, if_false]
      refine wpS_pure ⟨rfl, rfl, fun i j hil hij hj => ?_⟩
      have hl : kk r a (lo + x - 1) < kk r a (lo + x) := Nat.lt_of_le_of_ne (Nat.le_of_not_lt hless) (Ne.symm (hI.ne (i := lo + x) (j := lo + x - 1) hlx hpx (Nat.ne_of_gt hp)))
      by_cases hjx : j < lo + x
      · exact hs' i j hil hij hjx
      · have hj' : j = lo + x := Nat.le_antisymm (Nat.le_of_lt_succ hj) (Nat.le_of_not_lt hjx)
        subst hj'
        by_cases hi' : i = lo + x - 1
        · rw [hi']; exact hl
        · exact Nat.lt_trans (hs' i (lo + x - 1) hil (Nat.lt_of_le_of_ne (Nat.le_sub_one_of_lt hij) hi') hp) hl

abbrev DescS := Option (Option Nat) × Nat × Nat
theorem ts_desc (hA : Answers prog w A s κ r P) (hI : Items r P a) {lo b nrem : Nat} {Q : DescS → SortSt → Prop} {f : Nat → DescS → StateT SortSt Sem (ForInStep DescS)}
    (hf : ∀ x n, f x (none, n, 0) = (do
      let __x ← ltAt' (lo + n) (lo + n - 1)
      match __x with
      | some smaller =>
        if smaller = true then pure (ForInStep.yield (none, n + 1, 0))
        else do
          let __x ← ltAt' (lo + n - 1) (lo + n)
          match __x with
          | some larger => if larger = true then pure (ForInStep.done (none, n, 0)) else pure (ForInStep.yield (none, n + 1, 0 + 1))
          | _ => pure (ForInStep.done (some none, n, 0))
      | _ => pure (ForInStep.done (some none, n, 0))))
    (hn : lo + nrem ≤ a.size) (hb : 1 ≤ b) (hbn : b ≤ nrem) (hs : Down r a lo (lo + b))
    (h : ∀ n, b ≤ n → n ≤ nrem → Down r a lo (lo + n) → Q (none, n, 0) (sst κ a pd g)) :
    wpS (model prog w) A E s (forIn [b:nrem] ((none, b, 0) : DescS) f) Q (sst κ a pd g) := by
  refine wpS_forRange (I := fun x c st' => st' = sst κ a pd g ∧ c = (none, x, 0) ∧ Down r a lo (lo + x)) ?step ?fin ⟨rfl, rfl, hs⟩
  case fin =>
    rintro c st' ⟨rfl, rfl, hs'⟩
    rw [Nat.max_eq_right hbn] at hs' ⊢
    exact h nrem hbn (Nat.le_refl _) hs'
  case step =>
    rintro x c st' hax hxn ⟨rfl, rfl, hs'⟩
    rw [hf]
    have hlx := Nat.lt_of_lt_of_le (Nat.add_lt_add_left hxn lo) hn
    have hp := Nat.sub_lt (Nat.lt_of_lt_of_le (Nat.lt_of_lt_of_le Nat.zero_lt_one (Nat.le_trans hb hax)) (Nat.le_add_left x lo)) Nat.one_pos
    have hpx := Nat.lt_trans hp hlx
    refine wpS_bind (ts_ltAt hA hI hlx hpx ?_)
    by_cases hless : kk r a (lo + x) < kk r a (lo + x - 1)
    · simp only [hless, decide_true, if_true]
      refine wpS_pure ⟨rfl, rfl, fun i j hil hij hj => ?_⟩
      by_cases hjx : j < lo + x
      · exact hs' i j hil hij hjx
      · have hj' : j = lo + x := Nat.le_antisymm (Nat.le_of_lt_succ hj) (Nat.le_of_not_lt hjx)
        subst hj'
        by_cases hi' : i = lo + x - 1
        · rw [hi']; exact hless
        · exact Nat.lt_trans hless (hs' i (lo + x - 1) hil (Nat.lt_of_le_of_ne (Nat.le_sub_one_of_lt hij) hi') hp)
    · simp only [hless, decide_false, Bool.false_eq_true, if_false]
      have hl : kk r a (lo + x - 1) < kk r a (lo + x) := Nat.lt_of_le_of_ne (Nat.le_of_not_lt hless) (Ne.symm (hI.ne (i := lo + x) (j := lo + x - 1) hlx hpx (Nat.ne_of_gt hp)))
      refine wpS_bind (ts_ltAt hA hI hpx hlx ?_)
      simp only [hl, decide_true, if_true]
      exact wpS_pure (h x hax (Nat.le_of_lt hxn) hs')

theorem ts_count (hA : Answers prog w A s κ r P) (hI : Items r P a) {lo nrem : Nat} {Q : Option Nat → SortSt → Prop} (hn : lo + nrem ≤ a.size) (h1 : 1 ≤ nrem)
    (h : ∀ m a', Within a a' lo (lo + nrem) → 1 ≤ m → m ≤ nrem → Up r a' lo (lo + m) → Q (some m) (sst κ a' pd g)) : wpS (model prog w) A E s (countRun' lo nrem) Q (sst κ a pd g) := by
  have one : Up r a lo (lo + 1) := fun i j a b c => by lia
  rw [countRun'_eq]
  refine wpS_bind (ts_asc hA hI (fun _ _ => rfl) hn (Nat.le_refl 1) h1 one fun n hn1 hn2 hup hend => ?_)
  dsimp only
  by_cases e1 : n = nrem
  · subst e1
    simp only [beq_self_eq_true, if_true]
    exact wpS_pure (h n a (.refl _ _ _) hn1 (Nat.le_refl _) hup)
  · have e1' : (n == nrem) = false := by simpa using e1
    simp only [e1', Bool.false_eq_true, if_false]
    by_cases e2 : n > 1
    · rw [if_pos e2]
      refine wpS_bind (ts_ltAt hA hI (by lia) (by lia) ?_)
      have hl : kk r a lo < kk r a (lo + n - 1) := hup lo (lo + n - 1) (by lia) (by lia) (by lia)
      simp only [hl, decide_true, if_true]
      exact wpS_pure (h n a (.refl _ _ _) hn1 hn2 hup)
    · rw [if_neg e2]
      have en : n = 1 := by lia
      subst en
      refine wpS_bind (wpS_lift (wpAny_rule ⟨rfl, ?_⟩))
      have hd2 : Down r a lo (lo + 2) := fun i j ha hb hc => by
        have hi : i = lo := by lia
        have hj : j = lo + 1 := by lia
        rw [hi, hj]
        rcases hend with hend | hend
        · lia
        · rwa [show lo + 1 - 1 = lo by lia] at hend
      refine wpS_bind (ts_desc hA hI (fun x n => ?hf) hn (by lia) (by lia) hd2 fun m hm1 hm2 hdn => ?_)
      case hf => rfl
      dsimp only
      rw [if_neg (by lia)]
      have hW : Within a (mirror a lo (lo + m) ((lo + m - lo) / 2)) lo (lo + nrem) := .mirror (by lia) (Nat.le_refl _) (by lia)
      have hI' := hI.perm hW.perm
      refine wpS_bind (ts_reverse ?_)
      refine wpS_bind (ts_asc hA hI' (fun _ _ => rfl) (by rw [hW.size]; exact hn) (by lia) hm2 (fun i j ha hb hc => ?_) fun n' hn1' hn2' hup' _ => ?_)
      · rw [kk_mirror (by lia), kk_mirror (by lia), if_pos (by lia), if_pos (by lia)]
        exact hdn _ _ (by lia) (by lia) (by lia)
      · dsimp only
        exact wpS_pure (h n' _ hW (by lia) hn2' hup')
end
end Mine
end

-- TS2
section
set_option maxRecDepth 100000
open PySem PyProof.Rows
namespace Mine

noncomputable def gallop' : Bool → Keyed → Array Keyed → Nat → Nat → Nat → StateT SortSt Sem (Option Nat) := sortPriv% PySem.Builtin.gallop
noncomputable def beyond' (left : Bool) (key : Keyed) (arr : Array Keyed) (base i : Nat) : StateT SortSt Sem (Option Bool) := do
  let x ← elem' arr (base + i)
  if left then lt' x key else return (← lt' key x).map (!·)

theorem gallop'_eq (left : Bool) (key : Keyed) (arr : Array Keyed) (base n hint : Nat) : gallop' left key arr base n hint = (do
  let mut lastofs := 0
  let mut ofs := 1
  let mut lo := 0
  let mut hi := 0
  let some right ← beyond' left key arr base hint | return none
  if right then
    let maxofs := n - hint
    for _ in [0:n] do
      if ofs ≥ maxofs then break
      let some more ← beyond' left key arr base (hint + ofs) | return none
      if !more then break
      lastofs := ofs
      ofs := 2 * ofs + 1
    lo := hint + lastofs + 1
    hi := hint + min ofs maxofs
  else
    let maxofs := hint + 1
    for _ in [0:n] do
      if ofs ≥ maxofs then break
      let some found ← beyond' left key arr base (hint - ofs) | return none
      if found then break
      lastofs := ofs
      ofs := 2 * ofs + 1
    lo := hint + 1 - min ofs maxofs
    hi := hint - lastofs
  for _ in [0:n] do
    if lo ≥ hi then break
    let m := lo + (hi - lo) / 2
    let some more ← beyond' left key arr base m | return none
    if more then lo := m + 1 else hi := m
  return some hi) := rfl

noncomputable def bey (r : Keyed → Nat) (left : Bool) (key : Keyed) (arr : Array Keyed) (base i : Nat) : Bool :=
  if left then decide (kk r arr (base + i) < r key) else !decide (r key < kk r arr (base + i))

section
variable {prog : Program} {w : World} {A : Around} {E : Value → Shared → Prop} {s : Shared} {κ : SortKind} {r : Keyed → Nat} {P : Keyed → Prop} {a : Array Keyed} {pd : Array (Nat × Nat × Nat)} {g : Nat}

theorem ts_beyond (hA : Answers prog w A s κ r P) {left : Bool} {key : Keyed} {arr : Array Keyed} {base i : Nat} {Q : Option Bool → SortSt → Prop} (hk : P key) (hall : ∀ p ∈ arr.toList, P p) (hi : base + i < arr.size)
    (h : Q (some (bey r left key arr base i)) (sst κ a pd g)) : wpS (model prog w) A E s (beyond' left key arr base i) Q (sst κ a pd g) := by
  unfold beyond'
  refine wpS_bind (ts_elem hi ?_)
  have hx : P arr[base + i] := hall _ (by simp)
  unfold bey at h
  rw [kk_at hi] at h
  cases left with
  | true => simp only [if_true] at h ⊢; exact ts_lt hA hx hk h
  | false =>
    simp only [Bool.false_eq_true, if_false] at h ⊢
    exact wpS_bind (ts_lt hA hk hx (wpS_pure h))

theorem at_lt {arr : Array Keyed} {base n i : Nat} (hn : base + n ≤ arr.size) (h : i < n) : base + i < arr.size := Nat.lt_of_lt_of_le (Nat.add_lt_add_left h base) hn
theorem dbl (x : Nat) : x ≤ 2 * x := Nat.le_mul_of_pos_left x (by decide)
theorem bey_mono {left : Bool} {key : Keyed} {arr : Array Keyed} {base n : Nat} (hs : Up r arr base (base + n)) {i j : Nat} (hij : i ≤ j) (hj : j < n) (h : bey r left key arr base j = true) : bey r left key arr base i = true := by
  by_cases e : i = j
  · rw [e]; exact h
  · have := hs (base + i) (base + j) (Nat.le_add_right _ _) (Nat.add_lt_add_left (Nat.lt_of_le_of_ne hij e) base) (Nat.add_lt_add_left hj base)
    unfold bey at h ⊢
    cases left <;> simp at h ⊢ <;> first | exact Nat.lt_trans this h | exact Nat.le_trans (Nat.le_of_lt this) h
theorem bey_anti {left : Bool} {key : Keyed} {arr : Array Keyed} {base n : Nat} (hs : Up r arr base (base + n)) {i j : Nat} (hij : i ≤ j) (hj : j < n) (h : bey r left key arr base i = false) : bey r left key arr base j = false := by
  cases q : bey r left key arr base j with
  | false => rfl
  | true => rw [bey_mono hs hij hj q] at h; cases h

abbrev GalS := Option (Option Nat) × Nat × Nat

theorem ts_halve (hA : Answers prog w A s κ r P) {left : Bool} {key : Keyed} {arr : Array Keyed} {base n lo hi : Nat} {Q : GalS → SortSt → Prop} (hk : P key) (hall : ∀ p ∈ arr.toList, P p) (hn : base + n ≤ arr.size) (hs : Up r arr base (base + n))
    (hlh : lo ≤ hi) (hhn : hi ≤ n) (hlo : ∀ i, i < lo → bey r left key arr base i = true) (hhi : ∀ i, hi ≤ i → i < n → bey r left key arr base i = false) {f : Nat → GalS → StateT SortSt Sem (ForInStep GalS)}
    (hf : ∀ x l h, f x (none, l, h) = (if l ≥ h then pure (ForInStep.done (none, l, h)) else do
      let __x ← beyond' left key arr base (l + (h - l) / 2)
      match __x with
      | some more => if more = true then pure (ForInStep.yield (none, l + (h - l) / 2 + 1, h)) else pure (ForInStep.yield (none, l, l + (h - l) / 2))
      | _ => pure (ForInStep.done (some none, l, h))))
    (h : ∀ k, k ≤ n → (∀ i, i < k → bey r left key arr base i = true) → (∀ i, k ≤ i → i < n → bey r left key arr base i = false) → Q (none, k, k) (sst κ a pd g)) :
    wpS (model prog w) A E s (forIn [0:n] ((none, lo, hi) : GalS) f) Q (sst κ a pd g) := by
  refine wpS_forRange (I := fun x c st' => st' = sst κ a pd g ∧ ∃ l u, c = (none, l, u) ∧ l ≤ u ∧ u ≤ n ∧ u - l ≤ n - x ∧ (∀ i, i < l → bey r left key arr base i = true) ∧ (∀ i, u ≤ i → i < n → bey r left key arr base i = false)) ?step ?fin
    ⟨rfl, lo, hi, rfl, hlh, hhn, Nat.le_trans (Nat.sub_le _ _) hhn, hlo, hhi⟩
  case fin =>
    rintro c st' ⟨rfl, l, u, rfl, h1, h2, h3, h4, h5⟩
    have : l = u := fuel_end h1 h3
    subst this
    exact h l h2 h4 h5
  case step =>
    rintro x c st' _ hx ⟨rfl, l, u, rfl, h1, h2, h3, h4, h5⟩
    rw [hf]
    by_cases hge : l ≥ u
    · rw [if_pos hge]
      have : l = u := Nat.le_antisymm h1 hge
      subst this
      exact wpS_pure (h l h2 h4 h5)
    · rw [if_neg hge]
      obtain ⟨hm1, hm2⟩ := mid_off hge
      generalize l + (u - l) / 2 = m at *
      have hmn := Nat.lt_of_lt_of_le hm2 h2
      refine wpS_bind (ts_beyond hA hk hall (at_lt hn hmn) ?_)
      dsimp only
      cases q : bey r left key arr base m with
      | true =>
        simp only [if_true]
        exact wpS_pure ⟨rfl, _, _, rfl, hm2, h2, fuel_step h3 (mid_hi hm1 hm2), fun i hi => bey_mono hs (Nat.le_of_lt_succ hi) hmn q, h5⟩
      | false =>
        simp only [Bool.false_eq_true, if_false]
        exact wpS_pure ⟨rfl, _, _, rfl, hm1, Nat.le_of_lt hmn, fuel_step h3 (mid_lo hm1 hm2), h4, fun i h6 h7 => bey_anti hs h6 h7 q⟩

theorem ts_gallop (hA : Answers prog w A s κ r P) {left : Bool} {key : Keyed} {arr : Array Keyed} {base n hint : Nat} {Q : Option Nat → SortSt → Prop} (hk : P key) (hall : ∀ p ∈ arr.toList, P p) (hn : base + n ≤ arr.size) (hs : Up r arr base (base + n))
    (hh : hint < n) (h : ∀ k, k ≤ n → (∀ i, i < k → bey r left key arr base i = true) → (∀ i, k ≤ i → i < n → bey r left key arr base i = false) → Q (some k) (sst κ a pd g)) :
    wpS (model prog w) A E s (gallop' left key arr base n hint) Q (sst κ a pd g) := by
  rw [gallop'_eq]
  refine wpS_bind (ts_beyond hA hk hall (at_lt hn hh) ?_)
  dsimp only
  cases q0 : bey r left key arr base hint with
  | true =>
    simp only [if_true]
    refine wpS_bind (wpS_mono (wpS_forRange (I := fun x c st' => st' = sst κ a pd g ∧ ∃ last ofs, c = (none, last, ofs) ∧ x + 1 ≤ ofs ∧ last < ofs ∧ hint + last < n ∧ bey r left key arr base (hint + last) = true)
      (Q := fun c st' => st' = sst κ a pd g ∧ ∃ last ofs, c = (none, last, ofs) ∧ last < ofs ∧ hint + last < n ∧ bey r left key arr base (hint + last) = true ∧ (n ≤ hint + ofs ∨ bey r left key arr base (hint + ofs) = false)) ?step ?fin ⟨rfl, 0, 1, rfl, Nat.le_refl _, Nat.zero_lt_one, hh, q0⟩) ?post)
    case fin =>
      rintro c st' ⟨rfl, last, ofs, rfl, h1, h2, h3, h4⟩
      exact ⟨rfl, last, ofs, rfl, h2, h3, h4, .inl (Nat.le_trans (Nat.le_trans (Nat.le_max_right 0 n) (Nat.le_of_succ_le h1)) (Nat.le_add_left _ _))⟩
    case step =>
      rintro x c st' _ hx ⟨rfl, last, ofs, rfl, h1, h2, h3, h4⟩
      dsimp only
      by_cases hge : ofs ≥ n - hint
      · rw [if_pos hge]
        exact wpS_pure ⟨rfl, last, ofs, rfl, h2, h3, h4, .inl (Nat.sub_le_iff_le_add'.mp hge)⟩
      · rw [if_neg hge]
        have hlt : hint + ofs < n := Nat.lt_of_not_ge fun q => hge (Nat.sub_le_iff_le_add'.mpr q)
        refine wpS_bind (ts_beyond hA hk hall (at_lt hn hlt) ?_)
        dsimp only
        cases q : bey r left key arr base (hint + ofs) with
        | true =>
          simp only [Bool.not_true, Bool.false_eq_true, if_false]
          exact wpS_pure ⟨rfl, _, _, rfl, Nat.succ_le_succ (Nat.le_trans h1 (dbl _)), Nat.lt_succ_of_le (dbl _), hlt, q⟩
        | false =>
          simp only [Bool.not_false, if_true]
          exact wpS_pure ⟨rfl, _, _, rfl, h2, h3, h4, .inr q⟩
    case post =>
      rintro c st' ⟨rfl, last, ofs, rfl, h2, h3, h4, h5⟩
      dsimp only
      refine wpS_bind (ts_halve hA hk hall hn hs (lo := hint + last + 1) (hi := hint + min ofs (n - hint)) (Nat.add_le_add_left (Nat.le_min.mpr ⟨h2, Nat.le_sub_of_add_le' h3⟩) hint) (Nat.le_trans (Nat.add_le_add_left (Nat.min_le_right _ _) hint) (Nat.le_of_eq (Nat.add_sub_of_le (Nat.le_of_lt hh)))) (fun i hi => bey_mono hs (Nat.le_of_lt_succ hi) h3 h4) (fun i h6 h7 => ?_) (fun x l u => ?hf) fun k h6 h7 h8 => ?_)
      case hf => rfl
      · rcases Nat.le_total (n - hint) ofs with c | c
        · rw [Nat.min_eq_right c, Nat.add_sub_of_le (Nat.le_of_lt hh)] at h6
          exact absurd h7 (Nat.not_lt_of_le h6)
        · rw [Nat.min_eq_left c] at h6
          rcases h5 with h5 | h5
          · exact absurd h7 (Nat.not_lt_of_le (Nat.le_trans h5 h6))
          · exact bey_anti hs h6 h7 h5
      · exact wpS_pure (h k h6 h7 h8)
  | false =>
    simp only [Bool.false_eq_true, if_false]
    refine wpS_bind (wpS_mono (wpS_forRange (I := fun x c st' => st' = sst κ a pd g ∧ ∃ last ofs, c = (none, last, ofs) ∧ x + 1 ≤ ofs ∧ last < ofs ∧ last ≤ hint ∧ bey r left key arr base (hint - last) = false)
      (Q := fun c st' => st' = sst κ a pd g ∧ ∃ last ofs, c = (none, last, ofs) ∧ last < ofs ∧ last ≤ hint ∧ bey r left key arr base (hint - last) = false ∧ (hint + 1 ≤ ofs ∨ bey r left key arr base (hint - ofs) = true)) ?step ?fin ⟨rfl, 0, 1, rfl, Nat.le_refl _, Nat.zero_lt_one, Nat.zero_le _, q0⟩) ?post)
    case fin =>
      rintro c st' ⟨rfl, last, ofs, rfl, h1, h2, h3, h4⟩
      exact ⟨rfl, last, ofs, rfl, h2, h3, h4, .inl (Nat.le_trans (Nat.le_trans hh (Nat.le_max_right 0 n)) (Nat.le_of_succ_le h1))⟩
    case step =>
      rintro x c st' _ hx ⟨rfl, last, ofs, rfl, h1, h2, h3, h4⟩
      dsimp only
      by_cases hge : ofs ≥ hint + 1
      · rw [if_pos hge]
        exact wpS_pure ⟨rfl, last, ofs, rfl, h2, h3, h4, .inl hge⟩
      · rw [if_neg hge]
        have hle := Nat.le_of_lt_succ (Nat.lt_of_not_ge hge)
        refine wpS_bind (ts_beyond hA hk hall (at_lt hn (Nat.lt_of_le_of_lt (Nat.sub_le _ _) hh)) ?_)
        dsimp only
        cases q : bey r left key arr base (hint - ofs) with
        | true =>
          simp only [if_true]
          exact wpS_pure ⟨rfl, _, _, rfl, h2, h3, h4, .inr q⟩
        | false =>
          simp only [Bool.false_eq_true, if_false]
          exact wpS_pure ⟨rfl, _, _, rfl, Nat.succ_le_succ (Nat.le_trans h1 (dbl _)), Nat.lt_succ_of_le (dbl _), hle, q⟩
    case post =>
      rintro c st' ⟨rfl, last, ofs, rfl, h2, h3, h4, h5⟩
      dsimp only
      refine wpS_bind (ts_halve hA hk hall hn hs (lo := hint + 1 - min ofs (hint + 1)) (hi := hint - last) (Nat.add_sub_add_right hint 1 last ▸ Nat.sub_le_sub_left (Nat.le_min.mpr ⟨h2, Nat.succ_le_succ h3⟩) (hint + 1)) (Nat.le_trans (Nat.sub_le _ _) (Nat.le_of_lt hh)) (fun i hi => ?_) (fun i h6 h7 => bey_anti hs h6 h7 h4) (fun x l u => ?hf2) fun k h6 h7 h8 => ?_)
      case hf2 => rfl
      · rcases Nat.lt_or_ge hint ofs with c | c
        · rw [Nat.min_eq_right c, Nat.sub_self] at hi
          exact absurd hi (Nat.not_lt_zero _)
        · rw [Nat.min_eq_left (Nat.le_succ_of_le c), Nat.succ_sub c] at hi
          rcases h5 with h5 | h5
          · exact absurd c (Nat.not_le_of_lt h5)
          · exact bey_mono hs (Nat.le_of_lt_succ hi) (Nat.lt_of_le_of_lt (Nat.sub_le _ _) hh) h5
      · exact wpS_pure (h k h6 h7 h8)
end
end Mine
end

-- TS3
section
set_option maxRecDepth 100000
open PySem PyProof.Rows
namespace Mine

def SL (r : Keyed → Nat) (l : List Keyed) : Prop := l.Pairwise fun x y => r x < r y

structure MI (R : Keyed → Keyed → Prop) (la lb : List Keyed) (ia ib : Nat) (out : List Keyed) : Prop where
  perm : out.Perm (la.take ia ++ lb.take ib)
  up : out.Pairwise R
  ba : ∀ x ∈ out, ∀ y ∈ la.drop ia, R x y
  bb : ∀ x ∈ out, ∀ y ∈ lb.drop ib, R x y
  ha : ia ≤ la.length
  hb : ib ≤ lb.length

theorem perm_mid {α : Type} (a b c : List α) : (a ++ b ++ c).Perm (a ++ c ++ b) := by
  rw [List.append_assoc, List.append_assoc]
  exact List.Perm.append_left a List.perm_append_comm

theorem take_add' {α : Type} (l : List α) (i k : Nat) : l.take (i + k) = l.take i ++ (l.drop i).take k := by
  rw [List.take_add]

theorem drop_split {α : Type} (l : List α) (i k : Nat) : l.drop i = (l.drop i).take k ++ l.drop (i + k) := by
  rw [← List.drop_drop, List.take_append_drop]

theorem pw_drop {R : Keyed → Keyed → Prop} {l : List Keyed} (h : l.Pairwise R) (i : Nat) : (l.drop i).Pairwise R := List.Pairwise.sublist (List.drop_sublist i l) h
theorem pw_take {R : Keyed → Keyed → Prop} {l : List Keyed} (h : l.Pairwise R) (i : Nat) : (l.take i).Pairwise R := List.Pairwise.sublist (List.take_sublist i l) h

section
variable {R : Keyed → Keyed → Prop} {la lb out : List Keyed} {ia ib : Nat}

theorem MI.extA (h : MI R la lb ia ib out) (hsa : la.Pairwise R) (k : Nat) (hk : ia + k ≤ la.length) (hlt : ∀ y ∈ (la.drop ia).take k, ∀ z ∈ lb.drop ib, R y z) : MI R la lb (ia + k) ib (out ++ (la.drop ia).take k) where
  perm := by
    rw [take_add']
    exact (h.perm.append_right _).trans (perm_mid _ _ _)
  up := by
    refine List.pairwise_append.mpr ⟨h.up, pw_take (pw_drop hsa ia) k, fun x hx y hy => ?_⟩
    exact h.ba x hx y (List.mem_of_mem_take hy)
  ba := by
    intro x hx y hy
    rcases List.mem_append.mp hx with q | q
    · exact h.ba x q y (by rw [drop_split la ia k]; exact List.mem_append_right _ hy)
    · have := pw_drop hsa ia
      rw [drop_split la ia k] at this
      exact (List.pairwise_append.mp this).2.2 x q y hy
  bb := by
    intro x hx y hy
    rcases List.mem_append.mp hx with q | q
    · exact h.bb x q y hy
    · exact hlt x q y hy
  ha := hk
  hb := h.hb

theorem MI.extB (h : MI R la lb ia ib out) (hsb : lb.Pairwise R) (k : Nat) (hk : ib + k ≤ lb.length) (hlt : ∀ y ∈ (lb.drop ib).take k, ∀ z ∈ la.drop ia, R y z) : MI R la lb ia (ib + k) (out ++ (lb.drop ib).take k) where
  perm := by
    rw [take_add', ← List.append_assoc]
    exact h.perm.append_right _
  up := by
    refine List.pairwise_append.mpr ⟨h.up, pw_take (pw_drop hsb ib) k, fun x hx y hy => ?_⟩
    exact h.bb x hx y (List.mem_of_mem_take hy)
  bb := by
    intro x hx y hy
    rcases List.mem_append.mp hx with q | q
    · exact h.bb x q y (by rw [drop_split lb ib k]; exact List.mem_append_right _ hy)
    · have := pw_drop hsb ib
      rw [drop_split lb ib k] at this
      exact (List.pairwise_append.mp this).2.2 x q y hy
  ba := by
    intro x hx y hy
    rcases List.mem_append.mp hx with q | q
    · exact h.ba x q y hy
    · exact hlt x q y hy
  ha := h.ha
  hb := hk

structure Merged (R : Keyed → Keyed → Prop) (la lb res : List Keyed) : Prop where
  perm : res.Perm (la ++ lb)
  up : res.Pairwise R

theorem MI.fin (h : MI R la lb ia ib out) (hsa : la.Pairwise R) (hsb : lb.Pairwise R) (he : ib = lb.length ∨ ia = la.length) : Merged R la lb (out ++ la.drop ia ++ lb.drop ib) where
  perm := by
    have e : (la.take ia ++ lb.take ib ++ la.drop ia ++ lb.drop ib).Perm (la ++ lb) := by
      refine ((perm_mid (la.take ia) (lb.take ib) (la.drop ia)).append_right (lb.drop ib)).trans ?_
      rw [List.append_assoc, List.take_append_drop, List.take_append_drop]
    exact ((h.perm.append_right _).append_right _).trans e
  up := by
    rcases he with rfl | rfl
    · rw [List.drop_length, List.append_nil]
      exact List.pairwise_append.mpr ⟨h.up, pw_drop hsa ia, h.ba⟩
    · rw [List.drop_length, List.append_nil]
      exact List.pairwise_append.mpr ⟨h.up, pw_drop hsb ib, h.bb⟩

theorem MI.finA (h : MI R la lb ia ib out) (hsa : la.Pairwise R) (hsb : lb.Pairwise R) (hl : ∀ y ∈ lb.drop ib, ∀ z ∈ la.drop ia, R y z) : Merged R la lb (out ++ lb.drop ib ++ la.drop ia) where
  perm := by
    have e : (la.take ia ++ lb.take ib ++ lb.drop ib ++ la.drop ia).Perm (la ++ lb) := by
      rw [List.append_assoc (la.take ia), List.take_append_drop]
      refine (perm_mid (la.take ia) lb (la.drop ia)).trans ?_
      rw [List.take_append_drop]
    exact ((h.perm.append_right _).append_right _).trans e
  up := by
    refine List.pairwise_append.mpr ⟨List.pairwise_append.mpr ⟨h.up, pw_drop hsb ib, h.bb⟩, pw_drop hsa ia, fun x hx y hy => ?_⟩
    rcases List.mem_append.mp hx with q | q
    · exact h.ba x q y hy
    · exact hl x q y hy
end

noncomputable def mergeLo' : Array Keyed → Array Keyed → StateT SortSt Sem (Array Keyed) := sortPriv% PySem.Builtin.mergeLo
noncomputable def mergeHi' : Array Keyed → Array Keyed → StateT SortSt Sem (Array Keyed) := sortPriv% PySem.Builtin.mergeHi
noncomputable abbrev setGal (g : Nat) (st : SortSt) : SortSt := SortSt.mk' (kindOf st) (arrOf st) (pendingOf st) g (failedOf st)
noncomputable def setMinGallop' (g : Nat) : StateT SortSt Sem Unit := modify (setGal g)
noncomputable def loDone (a b : Array Keyed) (out : Array Keyed) (ia ib : Nat) : Array Keyed := out ++ a.extract ia a.size ++ b.extract ib b.size
noncomputable def loLast (a b : Array Keyed) (out : Array Keyed) (ia ib : Nat) : Array Keyed := out ++ b.extract ib b.size ++ a.extract ia a.size

theorem mergeLo'_eq (a b : Array Keyed) : mergeLo' a b = (do
  rule "list.sort.merge-lo"
  let total := a.size + b.size
  let mut out : Array Keyed := #[← elem' b 0]
  let mut ia := 0
  let mut ib := 1
  if ib == b.size then return loDone a b out ia ib
  if ia + 1 == a.size then return loLast a b out ia ib
  let mut minGallop := gallopOf (← get)
  for _ in [0:total] do
    let mut acount := 0
    let mut bcount := 0
    for _ in [0:total] do
      let some bWins ← lt' (← elem' b ib) (← elem' a ia) | return loDone a b out ia ib
      if bWins then
        out := out.push (← elem' b ib); ib := ib + 1; bcount := bcount + 1; acount := 0
        if ib == b.size then return loDone a b out ia ib
        if bcount ≥ minGallop then break
      else
        out := out.push (← elem' a ia); ia := ia + 1; acount := acount + 1; bcount := 0
        if ia + 1 == a.size then return loLast a b out ia ib
        if acount ≥ minGallop then break
    rule "list.sort.gallop"
    minGallop := minGallop + 1
    for _ in [0:total] do
      if minGallop > 1 then minGallop := minGallop - 1
      setMinGallop' minGallop
      let some k ← gallop' false (← elem' b ib) a ia (a.size - ia) 0 | return loDone a b out ia ib
      acount := k
      if k > 0 then
        out := out ++ a.extract ia (ia + k); ia := ia + k
        if ia + 1 == a.size then return loLast a b out ia ib
        if ia == a.size then return loDone a b out ia ib
      out := out.push (← elem' b ib); ib := ib + 1
      if ib == b.size then return loDone a b out ia ib
      let some k ← gallop' true (← elem' a ia) b ib (b.size - ib) 0 | return loDone a b out ia ib
      bcount := k
      if k > 0 then
        out := out ++ b.extract ib (ib + k); ib := ib + k
        if ib == b.size then return loDone a b out ia ib
      out := out.push (← elem' a ia); ia := ia + 1
      if ia + 1 == a.size then return loLast a b out ia ib
      if acount < 7 && bcount < 7 then break
    minGallop := minGallop + 1
    setMinGallop' minGallop
  unsupported "internal:list.sort.merge-bound") := rfl
end Mine
end

-- TS4
section
set_option maxRecDepth 100000
open PySem PyProof.Rows
namespace Mine

section
variable {r : Keyed → Nat} {a b out : Array Keyed} {ia ib : Nat}
theorem SL.up {r : Keyed → Nat} {a : Array Keyed} (h : SL r a.toList) (lo hi : Nat) (hh : hi ≤ a.size) : Up r a lo hi := by
  intro i j h1 h2 h3
  rw [kk_at (Nat.lt_of_lt_of_le (Nat.lt_trans h2 h3) hh), kk_at (Nat.lt_of_lt_of_le h3 hh)]
  have := List.pairwise_iff_getElem.mp h i j (Nat.lt_of_lt_of_le (Nat.lt_trans h2 h3) hh) (Nat.lt_of_lt_of_le h3 hh) h2
  simpa using this
theorem sl_of_up {r : Keyed → Nat} {a : Array Keyed} (h : Up r a 0 a.size) : SL r a.toList := by
  refine List.pairwise_iff_getElem.mpr fun i j hi hj hij => ?_
  simp at hi hj
  have := h i j (Nat.zero_le _) hij hj
  rw [kk_at hi, kk_at hj] at this
  simpa using this
theorem mem_drop_kk {y : Keyed} {i : Nat} (h : y ∈ a.toList.drop i) : ∃ j, i ≤ j ∧ j < a.size ∧ r y = kk r a j := by
  obtain ⟨k, hk, e⟩ := List.mem_iff_getElem.mp h
  simp at hk
  have hk := Nat.add_lt_of_lt_sub' hk
  refine ⟨i + k, Nat.le_add_right _ _, hk, ?_⟩
  rw [kk_at hk, ← e]
  simp
theorem mem_seg_kk {y : Keyed} {i k : Nat} (h : y ∈ (a.toList.drop i).take k) : ∃ j, i ≤ j ∧ j < i + k ∧ j < a.size ∧ r y = kk r a j := by
  obtain ⟨q, hq, e⟩ := List.mem_iff_getElem.mp h
  rw [List.length_take, List.length_drop] at hq
  have hq1 := Nat.lt_of_lt_of_le hq (Nat.min_le_left _ _)
  have hq2 : i + q < a.size := Nat.add_lt_of_lt_sub' (Nat.lt_of_lt_of_le hq (Nat.min_le_right _ _))
  refine ⟨i + q, Nat.le_add_right _ _, Nat.add_lt_add_left hq1 i, hq2, ?_⟩
  rw [kk_at hq2, ← e]
  simp
theorem ext_toList (a : Array Keyed) (i k : Nat) : (a.extract i (i + k)).toList = (a.toList.drop i).take k := by simp
theorem ext_end (x : Array Keyed) (i : Nat) : (x.extract i x.size).toList = x.toList.drop i := by
  simp only [Array.toList_extract, List.extract_eq_take_drop]
  refine List.take_of_length_le ?_
  simp
theorem push_toList (out a : Array Keyed) {i : Nat} (h : i < a.size) : (out.push a[i]).toList = out.toList ++ (a.toList.drop i).take 1 := by
  rw [Array.toList_push]
  congr 1
  have h' : i < a.toList.length := by simpa using h
  rw [List.drop_eq_getElem_cons h', List.take_succ_cons, List.take_zero]; simp

abbrev MA (r : Keyed → Nat) (a b : Array Keyed) (ia ib : Nat) (out : Array Keyed) : Prop := MI (fun x y => r x < r y) a.toList b.toList ia ib out.toList

theorem MA.segA (h : MA r a b ia ib out) (ha : Up r a 0 a.size) {k : Nat} (hk : ia + k ≤ a.size) (hlt : ∀ i j, ia ≤ i → i < ia + k → ib ≤ j → j < b.size → kk r a i < kk r b j) : MA r a b (ia + k) ib (out ++ a.extract ia (ia + k)) := by
  unfold MA
  rw [Array.toList_append, ext_toList]
  refine MI.extA h (sl_of_up ha) k (by simpa using hk) fun y hy z hz => ?_
  obtain ⟨i, h1, h2, _, e1⟩ := mem_seg_kk (r := r) hy
  obtain ⟨j, h3, h4, e2⟩ := mem_drop_kk (r := r) hz
  rw [e1, e2]; exact hlt i j h1 h2 h3 h4
theorem MA.segB (h : MA r a b ia ib out) (hb : Up r b 0 b.size) {k : Nat} (hk : ib + k ≤ b.size) (hlt : ∀ i j, ib ≤ i → i < ib + k → ia ≤ j → j < a.size → kk r b i < kk r a j) : MA r a b ia (ib + k) (out ++ b.extract ib (ib + k)) := by
  unfold MA
  rw [Array.toList_append, ext_toList]
  refine MI.extB h (sl_of_up hb) k (by simpa using hk) fun y hy z hz => ?_
  obtain ⟨i, h1, h2, _, e1⟩ := mem_seg_kk (r := r) hy
  obtain ⟨j, h3, h4, e2⟩ := mem_drop_kk (r := r) hz
  rw [e1, e2]; exact hlt i j h1 h2 h3 h4
theorem up_head (ha : Up r a 0 a.size) {i j : Nat} (hij : i ≤ j) (hj : j < a.size) : kk r a i ≤ kk r a j := by
  by_cases e : i = j
  · rw [e]; exact Nat.le_refl _
  · exact Nat.le_of_lt (ha i j (Nat.zero_le _) (Nat.lt_of_le_of_ne hij e) hj)
theorem MA.pushA (h : MA r a b ia ib out) (ha : Up r a 0 a.size) (hb : Up r b 0 b.size) (hi : ia < a.size) (hlt : ib < b.size → kk r a ia < kk r b ib) : MA r a b (ia + 1) ib (out.push a[ia]) := by
  unfold MA
  rw [push_toList out a hi]
  refine MI.extA h (sl_of_up ha) 1 (by simp; lia) fun y hy z hz => ?_
  obtain ⟨i, h1, h2, _, e1⟩ := mem_seg_kk (r := r) hy
  obtain ⟨j, h3, h4, e2⟩ := mem_drop_kk (r := r) hz
  rw [e1, e2, Nat.le_antisymm (Nat.le_of_lt_succ h2) h1]
  exact Nat.lt_of_lt_of_le (hlt (Nat.lt_of_le_of_lt h3 h4)) (up_head hb h3 h4)
theorem MA.pushB (h : MA r a b ia ib out) (ha : Up r a 0 a.size) (hb : Up r b 0 b.size) (hi : ib < b.size) (hlt : ia < a.size → kk r b ib < kk r a ia) : MA r a b ia (ib + 1) (out.push b[ib]) := by
  unfold MA
  rw [push_toList out b hi]
  refine MI.extB h (sl_of_up hb) 1 (by simp; lia) fun y hy z hz => ?_
  obtain ⟨i, h1, h2, _, e1⟩ := mem_seg_kk (r := r) hy
  obtain ⟨j, h3, h4, e2⟩ := mem_drop_kk (r := r) hz
  rw [e1, e2, Nat.le_antisymm (Nat.le_of_lt_succ h2) h1]
  exact Nat.lt_of_lt_of_le (hlt (Nat.lt_of_le_of_lt h3 h4)) (up_head ha h3 h4)

abbrev MergedA (r : Keyed → Nat) (a b res : Array Keyed) : Prop := Merged (fun x y => r x < r y) a.toList b.toList res.toList

theorem MA.fin (h : MA r a b ia ib out) (ha : Up r a 0 a.size) (hb : Up r b 0 b.size) (he : ib = b.size ∨ ia = a.size) : MergedA r a b (loDone a b out ia ib) := by
  have := MI.fin h (sl_of_up ha) (sl_of_up hb) (by simpa using he)
  unfold MergedA loDone
  have e1 : ∀ (x : Array Keyed) (i : Nat), (x.extract i x.size).toList = x.toList.drop i := fun x i => ext_end x i
  rw [Array.toList_append, Array.toList_append, e1, e1]
  exact this
theorem MA.last (h : MA r a b ia ib out) (ha : Up r a 0 a.size) (hb : Up r b 0 b.size) (he : ia + 1 = a.size) (hl : ∀ j, j < b.size → kk r b j < kk r a (a.size - 1)) : MergedA r a b (loLast a b out ia ib) := by
  have := MI.finA h (sl_of_up ha) (sl_of_up hb) (fun y hy z hz => by
    obtain ⟨i, h1, h2, e1⟩ := mem_drop_kk (r := r) hy
    obtain ⟨j, h3, h4, e2⟩ := mem_drop_kk (r := r) hz
    rw [e1, e2, show j = a.size - 1 from Nat.le_antisymm (Nat.le_sub_one_of_lt h4) (by rw [← he]; exact h3)]
    exact hl i h2)
  unfold MergedA loLast
  have e1 : ∀ (x : Array Keyed) (i : Nat), (x.extract i x.size).toList = x.toList.drop i := fun x i => ext_end x i
  rw [Array.toList_append, Array.toList_append, e1, e1]
  exact this
end

section
variable {prog : Program} {w : World} {A : Around} {E : Value → Shared → Prop} {s : Shared} {κ : SortKind} {r : Keyed → Nat} {P : Keyed → Prop} {arr : Array Keyed} {pd : Array (Nat × Nat × Nat)} {g : Nat}

/-- what the merge is given: two rising parts, all unlike, the first's first above the second's first, the first's last above all of the second -/
structure Pair (r : Keyed → Nat) (P : Keyed → Prop) (a b : Array Keyed) : Prop where
  allA : ∀ p ∈ a.toList, P p
  allB : ∀ p ∈ b.toList, P p
  upA : Up r a 0 a.size
  upB : Up r b 0 b.size
  ne : ∀ i j, i < a.size → j < b.size → kk r a i ≠ kk r b j
  posA : 0 < a.size
  posB : 0 < b.size
  first : kk r b 0 < kk r a 0
  last : ∀ j, j < b.size → kk r b j < kk r a (a.size - 1)

theorem MA.zero (r : Keyed → Nat) (a b : Array Keyed) : MA r a b 0 0 #[] where
  perm := by simp
  up := .nil
  ba := fun x hx => by simp at hx
  bb := fun x hx => by simp at hx
  ha := Nat.zero_le _
  hb := Nat.zero_le _

abbrev LoS := Option (Array Keyed) × Array Keyed × Nat × Nat × Nat × Nat × Nat
noncomputable def loT3 (a b out : Array Keyed) (ia ib mg k k1 : Nat) : StateT SortSt Sem (ForInStep LoS) := do
  let x ← elem' a ia
  if (ia + 1 + 1 == a.size) = true then pure (.done (some (loLast a b (out.push x) (ia + 1) ib), out.push x, ia + 1, ib, mg, k, k1))
  else if (decide (k < 7) && decide (k1 < 7)) = true then pure (.done (none, out.push x, ia + 1, ib, mg, k, k1))
  else pure (.yield (none, out.push x, ia + 1, ib, mg, k, k1))
noncomputable def loT2 (a b out : Array Keyed) (ia ib mg k bc : Nat) : StateT SortSt Sem (ForInStep LoS) := do
  let x ← elem' b ib
  if (ib + 1 == b.size) = true then pure (.done (some (loDone a b (out.push x) ia (ib + 1)), out.push x, ia, ib + 1, mg, k, bc))
  else do
    let y ← elem' a ia
    let r ← gallop' true y b (ib + 1) (b.size - (ib + 1)) 0
    match r with
    | some k1 =>
      if k1 > 0 then
        if (ib + 1 + k1 == b.size) = true then pure (.done (some (loDone a b (out.push x ++ b.extract (ib + 1) (ib + 1 + k1)) ia (ib + 1 + k1)), out.push x ++ b.extract (ib + 1) (ib + 1 + k1), ia, ib + 1 + k1, mg, k, k1))
        else loT3 a b (out.push x ++ b.extract (ib + 1) (ib + 1 + k1)) ia (ib + 1 + k1) mg k k1
      else loT3 a b (out.push x) ia (ib + 1) mg k k1
    | _ => pure (.done (some (loDone a b (out.push x) ia (ib + 1)), out.push x, ia, ib + 1, mg, k, bc))
noncomputable def loT1 (a b out : Array Keyed) (ia ib mg ac bc : Nat) : StateT SortSt Sem (ForInStep LoS) := do
  let x ← elem' b ib
  let r ← gallop' false x a ia (a.size - ia) 0
  match r with
  | some k =>
    if k > 0 then
      if (ia + k + 1 == a.size) = true then pure (.done (some (loLast a b (out ++ a.extract ia (ia + k)) (ia + k) ib), out ++ a.extract ia (ia + k), ia + k, ib, mg, k, bc))
      else if (ia + k == a.size) = true then pure (.done (some (loDone a b (out ++ a.extract ia (ia + k)) (ia + k) ib), out ++ a.extract ia (ia + k), ia + k, ib, mg, k, bc))
      else loT2 a b (out ++ a.extract ia (ia + k)) (ia + k) ib mg k bc
    else loT2 a b out ia ib mg k bc
  | _ => pure (.done (some (loDone a b out ia ib), out, ia, ib, mg, ac, bc))

def LoQ (κ : SortKind) (r : Keyed → Nat) (arr : Array Keyed) (pd : Array (Nat × Nat × Nat)) (a b : Array Keyed) (b0 : Nat) (c : LoS) (st' : SortSt) : Prop :=
  ∃ g', st' = sst κ arr pd g' ∧ ((∃ res, c.1 = some res ∧ MergedA r a b res) ∨ ∃ out ia ib mg ac bc, c = (none, out, ia, ib, mg, ac, bc) ∧ MA r a b ia ib out ∧ ia + 1 < a.size ∧ ib < b.size ∧ b0 + 1 ≤ ia + ib)
def LoI (κ : SortKind) (r : Keyed → Nat) (arr : Array Keyed) (pd : Array (Nat × Nat × Nat)) (a b : Array Keyed) (b0 y : Nat) (c : LoS) (st' : SortSt) : Prop :=
  ∃ g', st' = sst κ arr pd g' ∧ ∃ out ia ib mg ac bc, c = (none, out, ia, ib, mg, ac, bc) ∧ MA r a b ia ib out ∧ ia + 1 < a.size ∧ ib < b.size ∧ b0 + y ≤ ia + ib
abbrev LoP (κ : SortKind) (r : Keyed → Nat) (arr : Array Keyed) (pd : Array (Nat × Nat × Nat)) (a b : Array Keyed) (b0 y : Nat) (rr : ForInStep LoS) (st' : SortSt) : Prop :=
  match rr with | .done c' => LoQ κ r arr pd a b b0 c' st' | .yield c' => LoI κ r arr pd a b b0 (y + 1) c' st'

theorem lr1 {b y i j : Nat} (h : b + y ≤ i + j) : b + (y + 1) ≤ i + 1 + j := by rw [Nat.add_right_comm]; exact Nat.succ_le_succ h
theorem lr2 {b y i j : Nat} (h : b + y ≤ i + j) : b + 1 ≤ i + 1 + j := by rw [Nat.add_right_comm]; exact Nat.succ_le_succ (Nat.le_trans (Nat.le_add_right _ _) h)
theorem lo_fin {N i j A B : Nat} (h1 : i + 1 < A) (h2 : j < B) (h : N ≤ i + j) (hN : A + B ≤ N) : False := by omega

theorem lo_t3 {a b out : Array Keyed} {ia ib mg k k1 b0 y : Nat} (hp : Pair r P a b) (hm : MA r a b ia ib out) (h1 : ia + 1 < a.size) (h2 : ib < b.size) (hlt : kk r a ia < kk r b ib) (hc : b0 + y ≤ ia + ib) :
    wpS (model prog w) A E s (loT3 a b out ia ib mg k k1) (LoP κ r arr pd a b b0 y) (sst κ arr pd g) := by
  unfold loT3
  have hia := Nat.lt_of_succ_lt h1
  refine wpS_bind (ts_elem hia ?_)
  have hm' := hm.pushA hp.upA hp.upB hia fun _ => hlt
  by_cases q1 : (ia + 1 + 1 == a.size) = true
  · rw [if_pos q1]
    exact wpS_pure ⟨g, rfl, .inl ⟨_, rfl, hm'.last hp.upA hp.upB (by simpa using q1) hp.last⟩⟩
  · rw [if_neg q1]
    have q1' : ¬ ia + 1 + 1 = a.size := by simpa using q1
    by_cases q2 : (decide (k < 7) && decide (k1 < 7)) = true
    · rw [if_pos q2]
      exact wpS_pure ⟨g, rfl, .inr ⟨_, _, _, _, _, _, rfl, hm', Nat.lt_of_le_of_ne h1 q1', h2, lr2 hc⟩⟩
    · rw [if_neg q2]
      exact wpS_pure ⟨g, rfl, _, _, _, _, _, _, rfl, hm', Nat.lt_of_le_of_ne h1 q1', h2, lr1 hc⟩

theorem lo_t2 (hA : Answers prog w A s κ r P) {a b out : Array Keyed} {ia ib mg k bc b0 y : Nat} (hp : Pair r P a b) (hm : MA r a b ia ib out) (h1 : ia + 1 < a.size) (h2 : ib < b.size) (hlt : kk r b ib < kk r a ia) (hc : b0 + y ≤ ia + ib) :
    wpS (model prog w) A E s (loT2 a b out ia ib mg k bc) (LoP κ r arr pd a b b0 y) (sst κ arr pd g) := by
  unfold loT2
  refine wpS_bind (ts_elem h2 ?_)
  have hm' := hm.pushB hp.upA hp.upB h2 fun _ => hlt
  by_cases q1 : (ib + 1 == b.size) = true
  · rw [if_pos q1]
    exact wpS_pure ⟨g, rfl, .inl ⟨_, rfl, hm'.fin hp.upA hp.upB (.inl (by simpa using q1))⟩⟩
  · rw [if_neg q1]
    have q1' : ¬ ib + 1 = b.size := by simpa using q1
    have hia := Nat.lt_of_succ_lt h1
    have hb1 := Nat.lt_of_le_of_ne h2 q1'
    have eb := Nat.le_of_eq (Nat.add_sub_of_le h2)
    refine wpS_bind (ts_elem hia (wpS_bind (ts_gallop hA (hp.allA _ (by simp)) hp.allB eb (fun i j e1 e2 e3 => hp.upB i j (Nat.zero_le _) e2 (Nat.lt_of_lt_of_le e3 eb)) (Nat.sub_pos_of_lt hb1) fun k1 hk1 hyes hno => ?_)))
    have yes : ∀ i, ib + 1 ≤ i → i < ib + 1 + k1 → kk r b i < kk r a ia := fun i e1 e2 => by
      have := hyes (i - (ib + 1)) (Nat.sub_lt_left_of_lt_add e1 e2)
      unfold bey at this
      simp only [if_true, decide_eq_true_eq] at this
      rw [← kk_at (r := r) hia, Nat.add_sub_of_le e1] at this
      exact this
    have no : ∀ i, ib + 1 + k1 ≤ i → i < b.size → kk r a ia < kk r b i := fun i e1 e2 => by
      have hi := Nat.le_trans (Nat.le_add_right (ib + 1) k1) e1
      have := hno (i - (ib + 1)) (Nat.le_sub_of_add_le' e1) (Nat.sub_lt_sub_right hi e2)
      unfold bey at this
      simp only [if_true, decide_eq_false_iff_not] at this
      rw [← kk_at (r := r) hia, Nat.add_sub_of_le hi] at this
      exact Nat.lt_of_le_of_ne (Nat.le_of_not_lt this) (hp.ne ia i hia e2)
    dsimp only
    by_cases q2 : k1 > 0
    · rw [if_pos q2]
      have hle := Nat.le_trans (Nat.add_le_add_left hk1 (ib + 1)) eb
      have hm2 := hm'.segB hp.upB (k := k1) hle fun i j e1 e2 e3 e4 => Nat.lt_of_lt_of_le (yes i e1 e2) (up_head hp.upA e3 e4)
      by_cases q3 : (ib + 1 + k1 == b.size) = true
      · rw [if_pos q3]
        exact wpS_pure ⟨g, rfl, .inl ⟨_, rfl, hm2.fin hp.upA hp.upB (.inl (by simpa using q3))⟩⟩
      · rw [if_neg q3]
        have q3' : ¬ ib + 1 + k1 = b.size := by simpa using q3
        have hlt' := Nat.lt_of_le_of_ne hle q3'
        exact lo_t3 hp hm2 h1 hlt' (no _ (Nat.le_refl _) hlt') (Nat.le_trans hc (Nat.add_le_add_left (Nat.le_trans (Nat.le_succ ib) (Nat.le_add_right _ _)) ia))
    · rw [if_neg q2]
      exact lo_t3 hp hm' h1 hb1 (no _ (Nat.add_le_add_left (Nat.le_of_not_lt q2) (ib + 1)) hb1) (Nat.le_succ_of_le hc)

theorem lo_t1 (hA : Answers prog w A s κ r P) {a b out : Array Keyed} {ia ib mg ac bc b0 y : Nat} (hp : Pair r P a b) (hm : MA r a b ia ib out) (h1 : ia + 1 < a.size) (h2 : ib < b.size) (hc : b0 + y ≤ ia + ib) :
    wpS (model prog w) A E s (loT1 a b out ia ib mg ac bc) (LoP κ r arr pd a b b0 y) (sst κ arr pd g) := by
  unfold loT1
  have hia := Nat.lt_of_succ_lt h1
  have ea := Nat.le_of_eq (Nat.add_sub_of_le (Nat.le_of_lt hia))
  refine wpS_bind (ts_elem h2 (wpS_bind (ts_gallop hA (hp.allB _ (by simp)) hp.allA ea (fun i j e1 e2 e3 => hp.upA i j (Nat.zero_le _) e2 (Nat.lt_of_lt_of_le e3 ea)) (Nat.sub_pos_of_lt hia) fun k hk hyes hno => ?_)))
  have hik := Nat.le_trans (Nat.add_le_add_left hk ia) ea
  have yes : ∀ i, ia ≤ i → i < ia + k → kk r a i < kk r b ib := fun i e1 e2 => by
    have := hyes (i - ia) (Nat.sub_lt_left_of_lt_add e1 e2)
    unfold bey at this
    simp only [Bool.false_eq_true, if_false, Bool.not_eq_true', decide_eq_false_iff_not] at this
    rw [← kk_at (r := r) h2, Nat.add_sub_of_le e1] at this
    exact Nat.lt_of_le_of_ne (Nat.le_of_not_lt this) (hp.ne i ib (Nat.lt_of_lt_of_le e2 hik) h2)
  have no : ∀ i, ia + k ≤ i → i < a.size → kk r b ib < kk r a i := fun i e1 e2 => by
    have hi := Nat.le_trans (Nat.le_add_right ia k) e1
    have := hno (i - ia) (Nat.le_sub_of_add_le' e1) (Nat.sub_lt_sub_right hi e2)
    unfold bey at this
    simp only [Bool.false_eq_true, if_false, Bool.not_eq_false', decide_eq_true_eq] at this
    rw [← kk_at (r := r) h2, Nat.add_sub_of_le hi] at this
    exact this
  dsimp only
  by_cases q2 : k > 0
  · rw [if_pos q2]
    have hm2 := hm.segA hp.upA (k := k) hik fun i j e1 e2 e3 e4 => Nat.lt_of_lt_of_le (yes i e1 e2) (up_head hp.upB e3 e4)
    by_cases q3 : (ia + k + 1 == a.size) = true
    · rw [if_pos q3]
      exact wpS_pure ⟨g, rfl, .inl ⟨_, rfl, hm2.last hp.upA hp.upB (by simpa using q3) hp.last⟩⟩
    · rw [if_neg q3]
      have q3' : ¬ ia + k + 1 = a.size := by simpa using q3
      by_cases q4 : (ia + k == a.size) = true
      · rw [if_pos q4]
        exact wpS_pure ⟨g, rfl, .inl ⟨_, rfl, hm2.fin hp.upA hp.upB (.inr (by simpa using q4))⟩⟩
      · rw [if_neg q4]
        have q4' : ¬ ia + k = a.size := by simpa using q4
        have hlt' := Nat.lt_of_le_of_ne hik q4'
        exact lo_t2 hA hp hm2 (Nat.lt_of_le_of_ne hlt' q3') h2 (no _ (Nat.le_refl _) hlt') (Nat.le_trans hc (Nat.add_le_add_right (Nat.le_add_right _ _) ib))
  · rw [if_neg q2]
    exact lo_t2 hA hp hm h1 h2 (no _ (Nat.add_le_add_left (Nat.le_of_not_lt q2) ia) hia) hc

theorem ts_setGal {k : Nat} {Q : Unit → SortSt → Prop} (h : Q () (sst κ arr pd k)) : wpS (model prog w) A E s (setMinGallop' k) Q (sst κ arr pd g) := wpS_modify h

theorem ts_mergeLo (hA : Answers prog w A s κ r P) {a b : Array Keyed} (hp : Pair r P a b) {Q : Array Keyed → SortSt → Prop} (h : ∀ res g', MergedA r a b res → Q res (sst κ arr pd g')) :
    wpS (model prog w) A E s (mergeLo' a b) Q (sst κ arr pd g) := by
  rw [mergeLo'_eq]
  refine wpS_bind (wpS_lift (wpAny_rule ⟨rfl, ?_⟩))
  refine wpS_bind (ts_elem hp.posB ?_)
  have m1 : MA r a b 0 1 #[b[0]'hp.posB] := (MA.zero r a b).pushB hp.upA hp.upB hp.posB fun _ => hp.first
  dsimp only
  by_cases e1 : (1 == b.size) = true
  · rw [if_pos e1]
    exact wpS_pure (h _ g (m1.fin hp.upA hp.upB (.inl (by simpa using e1))))
  · rw [if_neg e1]
    by_cases e2 : (0 + 1 == a.size) = true
    · rw [if_pos e2]
      exact wpS_pure (h _ g (m1.last hp.upA hp.upB (by simpa using e2) hp.last))
    · rw [if_neg e2]
      refine wpS_bind (wpS_get ?_)
      have f1 : 1 < b.size := Nat.lt_of_le_of_ne hp.posB (by simpa using e1)
      have f2 : 1 < a.size := Nat.lt_of_le_of_ne hp.posA (by simpa using e2)
      refine wpS_bind (wpS_mono (wpS_forRange
        (I := fun x c st' => ∃ g', st' = sst κ arr pd g' ∧ ∃ out ia ib mg, c = (none, out, ia, ib, mg) ∧ MA r a b ia ib out ∧ ia + 1 < a.size ∧ ib < b.size ∧ x + 1 ≤ ia + ib)
        (Q := fun c st' => ∃ g', st' = sst κ arr pd g' ∧ ∃ res, c.1 = some res ∧ MergedA r a b res) ?step ?fin ⟨g, rfl, _, 0, 1, _, rfl, m1, f2, f1, Nat.le_refl 1⟩) ?post)
      case post =>
        rintro ⟨c, c'⟩ st' ⟨g', rfl, res, hc, hm⟩
        dsimp only at hc
        subst hc
        exact wpS_pure (h res g' hm)
      case fin =>
        intro c st' hI
        refine elg4 hI fun g' out ia ib mg e1 e2 hR => ?_
        subst e1; subst e2
        have hm := hR.1
        have h1 := hR.2.1
        have h2 := hR.2.2.1
        have h3 := hR.2.2.2
        exact (lo_fin h1 h2 h3 (Nat.le_succ_of_le (Nat.le_max_right _ _))).elim
      case step =>
        intro x c st' _ hx hI
        refine elg4 hI fun g' out ia ib mg e1 e2 hR => ?_
        subst e1; subst e2
        have hm := hR.1
        have h1 := hR.2.1
        have h2 := hR.2.2.1
        have h3 := hR.2.2.2
        dsimp only
        -- one by one
        refine wpS_bind (wpS_mono (wpS_forRange
          (I := fun _ c st' => st' = sst κ arr pd g' ∧ ∃ out ia ib ac bc, c = (none, out, ia, ib, ac, bc) ∧ MA r a b ia ib out ∧ ia + 1 < a.size ∧ ib < b.size ∧ x + 1 ≤ ia + ib)
          (Q := fun c st' => st' = sst κ arr pd g' ∧ ((∃ res, c.1 = some res ∧ MergedA r a b res) ∨ ∃ out ia ib ac bc, c = (none, out, ia, ib, ac, bc) ∧ MA r a b ia ib out ∧ ia + 1 < a.size ∧ ib < b.size ∧ x + 1 ≤ ia + ib)) ?step1 ?fin1 ⟨rfl, out, ia, ib, 0, 0, rfl, hm, h1, h2, h3⟩) ?post1)
        case fin1 =>
          intro c st' hI
          refine el5 hI fun out ia ib ac bc e1 e2 hR => ?_
          subst e1; subst e2
          have hm := hR.1
          have h1 := hR.2.1
          have h2 := hR.2.2.1
          have h3 := hR.2.2.2
          exact ⟨rfl, .inr ⟨out, ia, ib, ac, bc, rfl, hm, h1, h2, h3⟩⟩
        case step1 =>
          intro y c st' _ hy hI
          refine el5 hI fun out ia ib ac bc e1 e2 hR => ?_
          subst e1; subst e2
          have hm := hR.1
          have h1 := hR.2.1
          have h2 := hR.2.2.1
          have h3 := hR.2.2.2
          dsimp only
          refine wpS_bind (ts_elem h2 (wpS_bind (ts_elem (Nat.lt_of_succ_lt h1) (wpS_bind (ts_lt hA (hp.allB _ (by simp)) (hp.allA _ (by simp)) ?_)))))
          rw [← kk_at (r := r) h2, ← kk_at (r := r) (Nat.lt_of_succ_lt h1)]
          by_cases hlt : kk r b ib < kk r a ia
          · simp only [hlt, decide_true, if_true]
            refine wpS_bind (ts_elem h2 ?_)
            have hm' := hm.pushB hp.upA hp.upB h2 fun _ => hlt
            by_cases q1 : (ib + 1 == b.size) = true
            · rw [if_pos q1]
              exact wpS_pure ⟨rfl, .inl ⟨_, rfl, hm'.fin hp.upA hp.upB (.inl (by simpa using q1))⟩⟩
            · rw [if_neg q1]
              have q1' : ¬ ib + 1 = b.size := by simpa using q1
              by_cases q2 : bc + 1 ≥ mg
              · rw [if_pos q2]
                exact wpS_pure ⟨rfl, .inr ⟨_, _, _, _, _, rfl, hm', h1, Nat.lt_of_le_of_ne h2 q1', Nat.le_succ_of_le h3⟩⟩
              · rw [if_neg q2]
                exact wpS_pure ⟨rfl, _, _, _, _, _, rfl, hm', h1, Nat.lt_of_le_of_ne h2 q1', Nat.le_succ_of_le h3⟩
          · simp only [hlt, decide_false, Bool.false_eq_true, if_false]
            refine wpS_bind (ts_elem (Nat.lt_of_succ_lt h1) ?_)
            have hne := hp.ne ia ib (Nat.lt_of_succ_lt h1) h2
            have hm' := hm.pushA hp.upA hp.upB (Nat.lt_of_succ_lt h1) fun _ => Nat.lt_of_le_of_ne (Nat.le_of_not_lt hlt) hne
            by_cases q1 : (ia + 1 + 1 == a.size) = true
            · rw [if_pos q1]
              exact wpS_pure ⟨rfl, .inl ⟨_, rfl, hm'.last hp.upA hp.upB (by simpa using q1) hp.last⟩⟩
            · rw [if_neg q1]
              have q1' : ¬ ia + 1 + 1 = a.size := by simpa using q1
              by_cases q2 : ac + 1 ≥ mg
              · rw [if_pos q2]
                exact wpS_pure ⟨rfl, .inr ⟨_, _, _, _, _, rfl, hm', Nat.lt_of_le_of_ne h1 q1', h2, (Nat.add_right_comm ia 1 ib).symm ▸ Nat.le_succ_of_le h3⟩⟩
              · rw [if_neg q2]
                exact wpS_pure ⟨rfl, _, _, _, _, _, rfl, hm', Nat.lt_of_le_of_ne h1 q1', h2, (Nat.add_right_comm ia 1 ib).symm ▸ Nat.le_succ_of_le h3⟩
        case post1 =>
          intro c st' hI
          have e0 := hI.1
          subst e0
          refine or_el5 hI.2 (fun res hc hres => ?_) (fun out ia ib ac bc hc hR => ?_)
          · obtain ⟨c1, c2⟩ := c
            dsimp only at hc
            subst hc
            exact wpS_pure ⟨g', rfl, res, rfl, hres⟩
          · subst hc
            have hm := hR.1
            have h1 := hR.2.1
            have h2 := hR.2.2.1
            have h3 := hR.2.2.2
            dsimp only
            refine wpS_bind (wpS_lift (wpAny_rule ⟨rfl, ?_⟩))
            refine wpS_bind (wpS_mono (wpS_forRange (I := LoI κ r arr pd a b (x + 1)) (Q := LoQ κ r arr pd a b (x + 1)) ?step2 ?fin2 ⟨g', rfl, _, _, _, _, _, _, rfl, hm, h1, h2, h3⟩) ?post2)
            case fin2 =>
              intro c st' hI
              refine elg6 hI fun g' out ia ib mg ac bc e1 e2 hR => ?_
              subst e1; subst e2
              have hm := hR.1
              have h1 := hR.2.1
              have h2 := hR.2.2.1
              have h3 := hR.2.2.2
              exact (lo_fin h1 h2 h3 (Nat.le_trans (Nat.le_max_right _ _) (Nat.le_add_left _ _))).elim
            case step2 =>
              intro y c st' _ hy hI
              refine elg6 hI fun g' out ia ib mg ac bc e1 e2 hR => ?_
              subst e1; subst e2
              have hm := hR.1
              have h1 := hR.2.1
              have h2 := hR.2.2.1
              have h3 := hR.2.2.2
              show wpS _ _ _ _ (if mg > 1 then (do setMinGallop' (mg - 1); loT1 a b out ia ib (mg - 1) ac bc) else (do setMinGallop' mg; loT1 a b out ia ib mg ac bc)) _ _
              by_cases q : mg > 1
              · rw [if_pos q]
                exact wpS_bind (ts_setGal (wpS_mono (lo_t1 hA hp hm h1 h2 h3) fun rr st' h => by cases rr <;> exact h))
              · rw [if_neg q]
                exact wpS_bind (ts_setGal (wpS_mono (lo_t1 hA hp hm h1 h2 h3) fun rr st' h => by cases rr <;> exact h))
            case post2 =>
              intro c st' hI
              refine el_g hI fun g' e0 hJ => ?_
              subst e0
              refine or_el6 hJ (fun res hc hres => ?_) (fun out ia ib mg ac bc hc hR => ?_)
              · obtain ⟨c1, c2⟩ := c
                dsimp only at hc
                subst hc
                exact wpS_pure ⟨g', rfl, res, rfl, hres⟩
              · subst hc
                have hm := hR.1
                have h1 := hR.2.1
                have h2 := hR.2.2.1
                have h3 := hR.2.2.2
                dsimp only
                exact wpS_bind (ts_setGal (wpS_pure ⟨_, rfl, _, _, _, _, rfl, hm, h1, h2, h3⟩))
end
end Mine
end

-- TS5
section
set_option maxRecDepth 100000
open PySem PyProof.Rows
namespace Mine

noncomputable def hiDone (a b : Array Keyed) (out : Array Keyed) (na nb : Nat) : Array Keyed := a.extract 0 na ++ b.extract 0 nb ++ out.reverse
noncomputable def hiFirst (a b : Array Keyed) (out : Array Keyed) (na nb : Nat) : Array Keyed := b.extract 0 nb ++ a.extract 0 na ++ out.reverse

theorem mergeHi'_eq (a b : Array Keyed) : mergeHi' a b = (do
  rule "list.sort.merge-hi"
  let total := a.size + b.size
  let mut na := a.size - 1
  let mut nb := b.size
  let mut out : Array Keyed := #[← elem' a na]
  if na == 0 then return hiDone a b out na nb
  if nb == 1 then return hiFirst a b out na nb
  let mut minGallop := gallopOf (← get)
  for _ in [0:total] do
    let mut acount := 0
    let mut bcount := 0
    for _ in [0:total] do
      let some aWins ← lt' (← elem' b (nb - 1)) (← elem' a (na - 1)) | return hiDone a b out na nb
      if aWins then
        na := na - 1; out := out.push (← elem' a na); acount := acount + 1; bcount := 0
        if na == 0 then return hiDone a b out na nb
        if acount ≥ minGallop then break
      else
        nb := nb - 1; out := out.push (← elem' b nb); bcount := bcount + 1; acount := 0
        if nb == 1 then return hiFirst a b out na nb
        if bcount ≥ minGallop then break
    rule "list.sort.gallop"
    minGallop := minGallop + 1
    for _ in [0:total] do
      if minGallop > 1 then minGallop := minGallop - 1
      setMinGallop' minGallop
      let some at_ ← gallop' false (← elem' b (nb - 1)) a 0 na (na - 1) | return hiDone a b out na nb
      let k := na - at_
      acount := k
      if k > 0 then
        out := out ++ (a.extract at_ na).reverse; na := at_
        if na == 0 then return hiDone a b out na nb
      nb := nb - 1; out := out.push (← elem' b nb)
      if nb == 1 then return hiFirst a b out na nb
      let some at_ ← gallop' true (← elem' a (na - 1)) b 0 nb (nb - 1) | return hiDone a b out na nb
      let k := nb - at_
      bcount := k
      if k > 0 then
        out := out ++ (b.extract at_ nb).reverse; nb := at_
        if nb == 1 then return hiFirst a b out na nb
        if nb == 0 then return hiDone a b out na nb
      na := na - 1; out := out.push (← elem' a na)
      if na == 0 then return hiDone a b out na nb
      if acount < 7 && bcount < 7 then break
    minGallop := minGallop + 1
    setMinGallop' minGallop
  unsupported "internal:list.sort.merge-bound") := rfl

section
variable {r : Keyed → Nat} {a b out : Array Keyed} {na nb : Nat}

/-- the upper part is merged: out is it from above down -/
structure MH (r : Keyed → Nat) (a b : Array Keyed) (na nb : Nat) (out : Array Keyed) : Prop where
  mi : MI (fun x y => r y < r x) a.toList.reverse b.toList.reverse (a.size - na) (b.size - nb) out.toList
  ha : na ≤ a.size
  hb : nb ≤ b.size

theorem drop_rev (a : Array Keyed) {n : Nat} (hn : n ≤ a.size) : a.toList.reverse.drop (a.size - n) = (a.toList.take n).reverse := by
  rw [List.drop_reverse, Array.length_toList, Nat.sub_sub_self hn]
theorem seg_rev' (a : Array Keyed) {n : Nat} (hn : n ≤ a.size) (k : Nat) : (a.toList.reverse.drop (a.size - n)).take k = ((a.toList.take n).drop (n - k)).reverse := by
  rw [drop_rev a hn, List.take_reverse, List.length_take_of_le (show n ≤ a.toList.length from hn)]
theorem mem_seg_rev {y : Keyed} {n k : Nat} (hn : n ≤ a.size) (h : y ∈ (a.toList.reverse.drop (a.size - n)).take k) : ∃ j, n - k ≤ j ∧ j < n ∧ r y = kk r a j := by
  rw [seg_rev' a hn] at h
  obtain ⟨q, hq, e⟩ := List.mem_iff_getElem.mp (List.mem_reverse.mp h)
  rw [List.length_drop, List.length_take_of_le (show n ≤ a.toList.length from hn)] at hq
  have hj : n - k + q < n := Nat.add_lt_of_lt_sub' hq
  refine ⟨n - k + q, Nat.le_add_right _ _, hj, ?_⟩
  rw [kk_at (Nat.lt_of_lt_of_le hj hn), ← e]
  simp only [List.getElem_drop, List.getElem_take, Array.getElem_toList]
theorem mem_drop_rev {y : Keyed} {n : Nat} (hn : n ≤ a.size) (h : y ∈ a.toList.reverse.drop (a.size - n)) : ∃ j, j < n ∧ r y = kk r a j := by
  rw [← List.take_length (l := a.toList.reverse.drop (a.size - n))] at h
  obtain ⟨j, _, h1, h2⟩ := mem_seg_rev (r := r) hn h
  exact ⟨j, h1, h2⟩
theorem seg_rev (a : Array Keyed) {n at_ : Nat} (hn : n ≤ a.size) (hat : at_ ≤ n) : (a.extract at_ n).reverse.toList = (a.toList.reverse.drop (a.size - n)).take (n - at_) := by
  rw [seg_rev' a hn, Nat.sub_sub_self hat, Array.toList_reverse, Array.toList_extract, List.extract_eq_drop_take']
theorem push_rev (out a : Array Keyed) {n : Nat} (hn : n < a.size) : (out.push a[n]).toList = out.toList ++ (a.toList.reverse.drop (a.size - (n + 1))).take 1 := by
  rw [Array.toList_push]
  have := seg_rev a (n := n + 1) (at_ := n) hn (Nat.le_succ n)
  rw [Nat.add_sub_cancel_left] at this
  rw [← this]
  congr 1
  rw [Array.toList_reverse, Array.toList_extract, List.extract_eq_take_drop, Nat.add_sub_cancel_left, List.drop_eq_getElem_cons (show n < a.toList.length from hn)]
  rfl
theorem pw_rev (h : Up r a 0 a.size) : a.toList.reverse.Pairwise (fun x y => r y < r x) := by
  rw [List.pairwise_reverse]
  exact sl_of_up h

theorem MH.segA (h : MH r a b na nb out) (ha : Up r a 0 a.size) {at_ : Nat} (hk : at_ ≤ na) (hlt : ∀ i j, at_ ≤ i → i < na → j < nb → kk r b j < kk r a i) : MH r a b at_ nb (out ++ (a.extract at_ na).reverse) := by
  refine ⟨?_, Nat.le_trans hk h.ha, h.hb⟩
  have hna := h.ha
  rw [Array.toList_append, seg_rev a h.ha hk, (Nat.sub_add_sub_cancel hna hk).symm]
  refine MI.extA h.mi (pw_rev ha) (na - at_) (by rw [Nat.sub_add_sub_cancel hna hk, List.length_reverse]; exact Nat.sub_le _ _) fun y hy z hz => ?_
  obtain ⟨i, h1, h2, e1⟩ := mem_seg_rev (r := r) h.ha hy
  obtain ⟨j, h3, e2⟩ := mem_drop_rev (r := r) h.hb hz
  rw [e1, e2]; exact hlt i j (Nat.sub_sub_self hk ▸ h1) h2 h3
theorem MH.segB (h : MH r a b na nb out) (hb : Up r b 0 b.size) {at_ : Nat} (hk : at_ ≤ nb) (hlt : ∀ i j, at_ ≤ i → i < nb → j < na → kk r a j < kk r b i) : MH r a b na at_ (out ++ (b.extract at_ nb).reverse) := by
  refine ⟨?_, h.ha, Nat.le_trans hk h.hb⟩
  have hnb := h.hb
  rw [Array.toList_append, seg_rev b h.hb hk, (Nat.sub_add_sub_cancel hnb hk).symm]
  refine MI.extB h.mi (pw_rev hb) (nb - at_) (by rw [Nat.sub_add_sub_cancel hnb hk, List.length_reverse]; exact Nat.sub_le _ _) fun y hy z hz => ?_
  obtain ⟨i, h1, h2, e1⟩ := mem_seg_rev (r := r) h.hb hy
  obtain ⟨j, h3, e2⟩ := mem_drop_rev (r := r) h.ha hz
  rw [e1, e2]; exact hlt i j (Nat.sub_sub_self hk ▸ h1) h2 h3
theorem MH.pushA (h : MH r a b (na + 1) nb out) (ha : Up r a 0 a.size) (hb : Up r b 0 b.size) (hlt : 0 < nb → kk r b (nb - 1) < kk r a na) : MH r a b na nb (out.push (a[na]'h.ha)) := by
  refine ⟨?_, Nat.le_of_succ_le h.ha, h.hb⟩
  have hna := h.ha
  have hnb := h.hb
  have e0 : a.size - na = (a.size - (na + 1)) + 1 := by rw [← Nat.sub_add_sub_cancel h.ha (Nat.le_succ na), Nat.add_sub_cancel_left]
  rw [push_rev out a h.ha, e0]
  refine MI.extA h.mi (pw_rev ha) 1 (by rw [← e0, List.length_reverse]; exact Nat.sub_le _ _) fun y hy z hz => ?_
  obtain ⟨i, h1, h2, e1⟩ := mem_seg_rev (r := r) h.ha hy
  obtain ⟨j, h3, e2⟩ := mem_drop_rev (r := r) h.hb hz
  rw [e1, e2, Nat.le_antisymm (Nat.le_of_lt_succ h2) h1]
  have p0 := Nat.lt_of_le_of_lt (Nat.zero_le j) h3
  exact Nat.lt_of_le_of_lt (up_head hb (Nat.le_sub_one_of_lt h3) (Nat.lt_of_lt_of_le (Nat.sub_lt p0 Nat.one_pos) hnb)) (hlt p0)
theorem MH.pushB (h : MH r a b na (nb + 1) out) (ha : Up r a 0 a.size) (hb : Up r b 0 b.size) (hlt : 0 < na → kk r a (na - 1) < kk r b nb) : MH r a b na nb (out.push (b[nb]'h.hb)) := by
  refine ⟨?_, h.ha, Nat.le_of_succ_le h.hb⟩
  have hna := h.ha
  have hnb := h.hb
  have e0 : b.size - nb = (b.size - (nb + 1)) + 1 := by rw [← Nat.sub_add_sub_cancel h.hb (Nat.le_succ nb), Nat.add_sub_cancel_left]
  rw [push_rev out b h.hb, e0]
  refine MI.extB h.mi (pw_rev hb) 1 (by rw [← e0, List.length_reverse]; exact Nat.sub_le _ _) fun y hy z hz => ?_
  obtain ⟨i, h1, h2, e1⟩ := mem_seg_rev (r := r) h.hb hy
  obtain ⟨j, h3, e2⟩ := mem_drop_rev (r := r) h.ha hz
  rw [e1, e2, Nat.le_antisymm (Nat.le_of_lt_succ h2) h1]
  have p0 := Nat.lt_of_le_of_lt (Nat.zero_le j) h3
  exact Nat.lt_of_le_of_lt (up_head ha (Nat.le_sub_one_of_lt h3) (Nat.lt_of_lt_of_le (Nat.sub_lt p0 Nat.one_pos) hna)) (hlt p0)

theorem ext_low (a : Array Keyed) {n : Nat} (hn : n ≤ a.size) : (a.extract 0 n).toList = (a.toList.reverse.drop (a.size - n)).reverse := by
  rw [drop_rev a hn, List.reverse_reverse, Array.toList_extract]; simp

theorem merged_rev {res : Array Keyed} {l : List Keyed} (e : res.toList = l.reverse) (h : Merged (fun x y => r y < r x) a.toList.reverse b.toList.reverse l) : MergedA r a b res where
  perm := by
    rw [e]
    refine (List.reverse_perm l).trans (h.perm.trans ?_)
    exact (List.reverse_perm _).append (List.reverse_perm _)
  up := by
    rw [e, List.pairwise_reverse]
    exact h.up

theorem MH.fin (h : MH r a b na nb out) (ha : Up r a 0 a.size) (hb : Up r b 0 b.size) (he : nb = 0 ∨ na = 0) : MergedA r a b (hiDone a b out na nb) := by
  have hna := h.ha
  have hnb := h.hb
  have hsz : nb = 0 ∨ na = 0 := he
  have k := MI.fin h.mi (pw_rev ha) (pw_rev hb) (by simp; lia)
  rcases he with rfl | rfl
  · refine merged_rev ?_ k
    unfold hiDone
    rw [Array.toList_append, Array.toList_append, ext_low a h.ha]
    simp
  · refine merged_rev ?_ k
    unfold hiDone
    rw [Array.toList_append, Array.toList_append, ext_low b h.hb]
    simp
theorem MH.last (h : MH r a b na nb out) (ha : Up r a 0 a.size) (hb : Up r b 0 b.size) (he : nb = 1) (hl : ∀ i, i < a.size → kk r b 0 < kk r a i) : MergedA r a b (hiFirst a b out na nb) := by
  have hna := h.ha
  have hnb := h.hb
  have k := MI.fin (la := b.toList.reverse) (lb := a.toList.reverse) (ia := b.size - nb) (ib := a.size - na) (R := fun x y => r y < r x) (out := out.toList ++ a.toList.reverse.drop (a.size - na))
  have hm := MI.extA h.mi (pw_rev ha) na (by simp; lia) (fun y hy z hz => by
    obtain ⟨i, h1, h2, e1⟩ := mem_seg_rev (r := r) h.ha hy
    obtain ⟨j, h3, e2⟩ := mem_drop_rev (r := r) h.hb hz
    rw [e1, e2, show j = 0 by lia]
    exact hl i (by lia))
  have k := MI.fin hm (pw_rev ha) (pw_rev hb) (.inr (by simp; lia))
  refine merged_rev ?_ k
  unfold hiFirst
  rw [Array.toList_append, Array.toList_append, ext_low a h.ha, ext_low b h.hb]
  have e1 : (a.toList.reverse.drop (a.size - na)).take na = a.toList.reverse.drop (a.size - na) := List.take_of_length_le (by simp; lia)
  have e2 : a.toList.reverse.drop (a.size - na + na) = [] := List.drop_eq_nil_of_le (by simp; lia)
  rw [e1, e2]
  simp
theorem MH.zero (r : Keyed → Nat) (a b : Array Keyed) : MH r a b a.size b.size #[] where
  mi := by
    rw [Nat.sub_self, Nat.sub_self]
    exact ⟨by simp, .nil, fun x hx => by simp at hx, fun x hx => by simp at hx, Nat.zero_le _, Nat.zero_le _⟩
  ha := Nat.le_refl _
  hb := Nat.le_refl _
end
end Mine
end

-- TS6
section
set_option maxRecDepth 100000
open PySem PyProof.Rows
namespace Mine
section
variable {prog : Program} {w : World} {A : Around} {E : Value → Shared → Prop} {s : Shared} {κ : SortKind} {r : Keyed → Nat} {P : Keyed → Prop} {arr : Array Keyed} {pd : Array (Nat × Nat × Nat)} {g : Nat}

theorem Pair.low {a b : Array Keyed} (hp : Pair r P a b) : ∀ i, i < a.size → kk r b 0 < kk r a i := fun i hi => Nat.lt_of_lt_of_le hp.first (up_head hp.upA (Nat.zero_le _) hi)

abbrev HiS := Option (Array Keyed) × Nat × Nat × Array Keyed × Nat × Nat × Nat
noncomputable def hiT3 (a b out : Array Keyed) (na nb mg k k1 : Nat) : StateT SortSt Sem (ForInStep HiS) := do
  let x ← elem' a (na - 1)
  if (na - 1 == 0) = true then pure (.done (some (hiDone a b (out.push x) (na - 1) nb), na - 1, nb, out.push x, mg, k, k1))
  else if (decide (k < 7) && decide (k1 < 7)) = true then pure (.done (none, na - 1, nb, out.push x, mg, k, k1))
  else pure (.yield (none, na - 1, nb, out.push x, mg, k, k1))
noncomputable def hiT2 (a b out : Array Keyed) (na nb mg k bc : Nat) : StateT SortSt Sem (ForInStep HiS) := do
  let x ← elem' b (nb - 1)
  if (nb - 1 == 1) = true then pure (.done (some (hiFirst a b (out.push x) na (nb - 1)), na, nb - 1, out.push x, mg, k, bc))
  else do
    let y ← elem' a (na - 1)
    let r ← gallop' true y b 0 (nb - 1) (nb - 1 - 1)
    match r with
    | some at_ =>
      if nb - 1 - at_ > 0 then
        if (at_ == 1) = true then pure (.done (some (hiFirst a b (out.push x ++ (b.extract at_ (nb - 1)).reverse) na at_), na, at_, out.push x ++ (b.extract at_ (nb - 1)).reverse, mg, k, nb - 1 - at_))
        else if (at_ == 0) = true then pure (.done (some (hiDone a b (out.push x ++ (b.extract at_ (nb - 1)).reverse) na at_), na, at_, out.push x ++ (b.extract at_ (nb - 1)).reverse, mg, k, nb - 1 - at_))
        else hiT3 a b (out.push x ++ (b.extract at_ (nb - 1)).reverse) na at_ mg k (nb - 1 - at_)
      else hiT3 a b (out.push x) na (nb - 1) mg k (nb - 1 - at_)
    | _ => pure (.done (some (hiDone a b (out.push x) na (nb - 1)), na, nb - 1, out.push x, mg, k, bc))
noncomputable def hiT1 (a b out : Array Keyed) (na nb mg ac bc : Nat) : StateT SortSt Sem (ForInStep HiS) := do
  let x ← elem' b (nb - 1)
  let r ← gallop' false x a 0 na (na - 1)
  match r with
  | some at_ =>
    if na - at_ > 0 then
      if (at_ == 0) = true then pure (.done (some (hiDone a b (out ++ (a.extract at_ na).reverse) at_ nb), at_, nb, out ++ (a.extract at_ na).reverse, mg, na - at_, bc))
      else hiT2 a b (out ++ (a.extract at_ na).reverse) at_ nb mg (na - at_) bc
    else hiT2 a b out na nb mg (na - at_) bc
  | _ => pure (.done (some (hiDone a b out na nb), na, nb, out, mg, ac, bc))

def HiQ (κ : SortKind) (r : Keyed → Nat) (arr : Array Keyed) (pd : Array (Nat × Nat × Nat)) (a b : Array Keyed) (b0 : Nat) (c : HiS) (st' : SortSt) : Prop :=
  ∃ g', st' = sst κ arr pd g' ∧ ((∃ res, c.1 = some res ∧ MergedA r a b res) ∨ ∃ out na nb mg ac bc, c = (none, na, nb, out, mg, ac, bc) ∧ MH r a b na nb out ∧ 0 < na ∧ 1 < nb ∧ b0 + 1 + na + nb ≤ a.size + b.size)
def HiI (κ : SortKind) (r : Keyed → Nat) (arr : Array Keyed) (pd : Array (Nat × Nat × Nat)) (a b : Array Keyed) (b0 y : Nat) (c : HiS) (st' : SortSt) : Prop :=
  ∃ g', st' = sst κ arr pd g' ∧ ∃ out na nb mg ac bc, c = (none, na, nb, out, mg, ac, bc) ∧ MH r a b na nb out ∧ 0 < na ∧ 1 < nb ∧ b0 + y + na + nb ≤ a.size + b.size
abbrev HiP (κ : SortKind) (r : Keyed → Nat) (arr : Array Keyed) (pd : Array (Nat × Nat × Nat)) (a b : Array Keyed) (b0 y : Nat) (rr : ForInStep HiS) (st' : SortSt) : Prop :=
  match rr with | .done c' => HiQ κ r arr pd a b b0 c' st' | .yield c' => HiI κ r arr pd a b b0 (y + 1) c' st'

theorem MH.pushA' {a b out : Array Keyed} {na nb : Nat} (h : MH r a b na nb out) (hp : Pair r P a b) (h0 : 0 < na) (hlt : 0 < nb → kk r b (nb - 1) < kk r a (na - 1)) (hi : na - 1 < a.size) : MH r a b (na - 1) nb (out.push (a[na - 1]'hi)) := by
  obtain ⟨m, rfl⟩ : ∃ m, na = m + 1 := Nat.exists_eq_succ_of_ne_zero (Nat.ne_of_gt h0)
  exact h.pushA hp.upA hp.upB hlt
theorem MH.pushB' {a b out : Array Keyed} {na nb : Nat} (h : MH r a b na nb out) (hp : Pair r P a b) (h0 : 0 < nb) (hlt : 0 < na → kk r a (na - 1) < kk r b (nb - 1)) (hi : nb - 1 < b.size) : MH r a b na (nb - 1) (out.push (b[nb - 1]'hi)) := by
  obtain ⟨m, rfl⟩ : ∃ m, nb = m + 1 := Nat.exists_eq_succ_of_ne_zero (Nat.ne_of_gt h0)
  exact h.pushB hp.upA hp.upB hlt

theorem pred_lt_of {n m : Nat} (h : 0 < n) (h' : n ≤ m) : n - 1 < m := Nat.lt_of_lt_of_le (Nat.sub_lt h Nat.one_pos) h'
theorem ar1 {x na nb S : Nat} (h : x + na + nb ≤ S) : x + (na - 1) + nb ≤ S := Nat.le_trans (Nat.add_le_add_right (Nat.add_le_add_left (Nat.sub_le _ _) x) nb) h
theorem ar2 {x na nb S : Nat} (h : x + na + nb ≤ S) : x + na + (nb - 1) ≤ S := Nat.le_trans (Nat.add_le_add_left (Nat.sub_le _ _) _) h
theorem ar3 {b y na nb S : Nat} (p : 0 < na) (h : b + y + na + nb ≤ S) : b + (y + 1) + (na - 1) + nb ≤ S := by
  obtain ⟨m, rfl⟩ := Nat.exists_eq_succ_of_ne_zero (Nat.ne_of_gt p)
  rw [Nat.succ_sub_one]; rwa [← Nat.add_assoc, Nat.add_right_comm (b + y) 1 m]
theorem ar4 {b y na nb S : Nat} (p : 0 < na) (h : b + y + na + nb ≤ S) : b + 1 + (na - 1) + nb ≤ S := by
  have := ar3 p h
  exact Nat.le_trans (Nat.add_le_add_right (Nat.add_le_add_right (Nat.add_le_add_left (Nat.succ_le_succ (Nat.zero_le y)) b) _) _) this
theorem hi_fin {N na nb S : Nat} (p : 0 < na) (h : N + na + nb ≤ S) (hN : S ≤ N) : False :=
  absurd (Nat.le_trans (Nat.le_trans (Nat.add_le_add_left p N) (Nat.le_add_right _ _)) h) (Nat.not_le_of_lt (Nat.lt_succ_of_le hN))

theorem hi_t3 {a b out : Array Keyed} {na nb mg k k1 b0 y : Nat} (hp : Pair r P a b) (hm : MH r a b na nb out) (h1 : 0 < na) (h2 : 1 < nb) (hlt : kk r b (nb - 1) < kk r a (na - 1)) (hc : b0 + y + na + nb ≤ a.size + b.size) :
    wpS (model prog w) A E s (hiT3 a b out na nb mg k k1) (HiP κ r arr pd a b b0 y) (sst κ arr pd g) := by
  unfold hiT3
  have hia := pred_lt_of h1 hm.ha
  refine wpS_bind (ts_elem hia ?_)
  have hm' := hm.pushA' hp h1 (fun _ => hlt) hia
  by_cases q1 : (na - 1 == 0) = true
  · rw [if_pos q1]
    exact wpS_pure ⟨g, rfl, .inl ⟨_, rfl, hm'.fin hp.upA hp.upB (.inr (by simpa using q1))⟩⟩
  · rw [if_neg q1]
    have q1' : ¬ na - 1 = 0 := by simpa using q1
    by_cases q2 : (decide (k < 7) && decide (k1 < 7)) = true
    · rw [if_pos q2]
      exact wpS_pure ⟨g, rfl, .inr ⟨_, _, _, _, _, _, rfl, hm', Nat.pos_of_ne_zero q1', h2, ar4 h1 hc⟩⟩
    · rw [if_neg q2]
      exact wpS_pure ⟨g, rfl, _, _, _, _, _, _, rfl, hm', Nat.pos_of_ne_zero q1', h2, ar3 h1 hc⟩

theorem hi_t2 (hA : Answers prog w A s κ r P) {a b out : Array Keyed} {na nb mg k bc b0 y : Nat} (hp : Pair r P a b) (hm : MH r a b na nb out) (h1 : 0 < na) (h2 : 1 < nb) (hlt : kk r a (na - 1) < kk r b (nb - 1)) (hc : b0 + y + na + nb ≤ a.size + b.size) :
    wpS (model prog w) A E s (hiT2 a b out na nb mg k bc) (HiP κ r arr pd a b b0 y) (sst κ arr pd g) := by
  unfold hiT2
  have hia := pred_lt_of h1 hm.ha
  have nb0 := Nat.lt_of_succ_lt h2
  have hib := pred_lt_of nb0 hm.hb
  refine wpS_bind (ts_elem hib ?_)
  have hm' := hm.pushB' hp nb0 (fun _ => hlt) hib
  by_cases q1 : (nb - 1 == 1) = true
  · rw [if_pos q1]
    exact wpS_pure ⟨g, rfl, .inl ⟨_, rfl, hm'.last hp.upA hp.upB (by simpa using q1) hp.low⟩⟩
  · rw [if_neg q1]
    have q1' : ¬ nb - 1 = 1 := by simpa using q1
    refine wpS_bind (ts_elem hia (wpS_bind (ts_gallop hA (hp.allA _ (by simp)) hp.allB (by rw [Nat.zero_add]; exact Nat.le_of_lt hib) (fun i j e1 e2 e3 => hp.upB i j e1 e2 (Nat.lt_trans (Nat.zero_add (nb - 1) ▸ e3) hib)) (Nat.sub_lt (Nat.sub_pos_of_lt h2) Nat.one_pos) fun at_ hk1 hyes hno => ?_)))
    have yes : ∀ i, i < at_ → kk r b i < kk r a (na - 1) := fun i e2 => by
      have := hyes i e2
      unfold bey at this
      simp only [if_true, decide_eq_true_eq] at this
      rw [← kk_at (r := r) hia, Nat.zero_add] at this
      exact this
    have no : ∀ i, at_ ≤ i → i < nb - 1 → kk r a (na - 1) < kk r b i := fun i e1 e2 => by
      have := hno i e1 e2
      unfold bey at this
      simp only [if_true, decide_eq_false_iff_not] at this
      rw [← kk_at (r := r) hia, Nat.zero_add] at this
      exact Nat.lt_of_le_of_ne (Nat.le_of_not_lt this) (hp.ne (na - 1) i hia (Nat.lt_trans e2 hib))
    dsimp only
    by_cases q2 : nb - 1 - at_ > 0
    · rw [if_pos q2]
      have hm2 := hm'.segB hp.upB (at_ := at_) hk1 fun i j e1 e2 e3 => Nat.lt_of_le_of_lt (up_head hp.upA (Nat.le_sub_one_of_lt e3) hia) (no i e1 e2)
      by_cases q3 : (at_ == 1) = true
      · rw [if_pos q3]
        exact wpS_pure ⟨g, rfl, .inl ⟨_, rfl, hm2.last hp.upA hp.upB (by simpa using q3) hp.low⟩⟩
      · rw [if_neg q3]
        have q3' : ¬ at_ = 1 := by simpa using q3
        by_cases q4 : (at_ == 0) = true
        · rw [if_pos q4]
          exact wpS_pure ⟨g, rfl, .inl ⟨_, rfl, hm2.fin hp.upA hp.upB (.inl (by simpa using q4))⟩⟩
        · rw [if_neg q4]
          have q4' : ¬ at_ = 0 := by simpa using q4
          have at0 := Nat.pos_of_ne_zero q4'
          exact hi_t3 hp hm2 h1 (Nat.lt_of_le_of_ne at0 (Ne.symm q3')) (yes _ (Nat.sub_lt at0 Nat.one_pos)) (Nat.le_trans (Nat.add_le_add_left (Nat.le_trans hk1 (Nat.sub_le _ _)) _) hc)
    · rw [if_neg q2]
      exact hi_t3 hp hm' h1 (Nat.lt_of_le_of_ne (Nat.sub_pos_of_lt h2) (Ne.symm q1')) (yes _ (Nat.lt_of_lt_of_le (Nat.sub_lt (Nat.sub_pos_of_lt h2) Nat.one_pos) (Nat.le_of_sub_eq_zero (Nat.eq_zero_of_not_pos q2)))) (ar2 hc)

theorem hi_t1 (hA : Answers prog w A s κ r P) {a b out : Array Keyed} {na nb mg ac bc b0 y : Nat} (hp : Pair r P a b) (hm : MH r a b na nb out) (h1 : 0 < na) (h2 : 1 < nb) (hc : b0 + y + na + nb ≤ a.size + b.size) :
    wpS (model prog w) A E s (hiT1 a b out na nb mg ac bc) (HiP κ r arr pd a b b0 y) (sst κ arr pd g) := by
  unfold hiT1
  have hna := hm.ha
  have nb0 := Nat.lt_of_succ_lt h2
  have hib := pred_lt_of nb0 hm.hb
  refine wpS_bind (ts_elem hib (wpS_bind (ts_gallop hA (hp.allB _ (by simp)) hp.allA (by rw [Nat.zero_add]; exact hna) (fun i j e1 e2 e3 => hp.upA i j e1 e2 (Nat.lt_of_lt_of_le (Nat.zero_add na ▸ e3) hna)) (Nat.sub_lt h1 Nat.one_pos) fun at_ hk hyes hno => ?_)))
  have yes : ∀ i, i < at_ → kk r a i < kk r b (nb - 1) := fun i e2 => by
    have := hyes i e2
    unfold bey at this
    simp only [Bool.false_eq_true, if_false, Bool.not_eq_true', decide_eq_false_iff_not] at this
    rw [← kk_at (r := r) hib, Nat.zero_add] at this
    exact Nat.lt_of_le_of_ne (Nat.le_of_not_lt this) (hp.ne i (nb - 1) (Nat.lt_of_lt_of_le e2 (Nat.le_trans hk hna)) hib)
  have no : ∀ i, at_ ≤ i → i < na → kk r b (nb - 1) < kk r a i := fun i e1 e2 => by
    have := hno i e1 e2
    unfold bey at this
    simp only [Bool.false_eq_true, if_false, Bool.not_eq_false', decide_eq_true_eq] at this
    rw [← kk_at (r := r) hib, Nat.zero_add] at this
    exact this
  dsimp only
  by_cases q2 : na - at_ > 0
  · rw [if_pos q2]
    have hm2 := hm.segA hp.upA (at_ := at_) hk fun i j e1 e2 e3 => Nat.lt_of_le_of_lt (up_head hp.upB (Nat.le_sub_one_of_lt e3) hib) (no i e1 e2)
    by_cases q3 : (at_ == 0) = true
    · rw [if_pos q3]
      exact wpS_pure ⟨g, rfl, .inl ⟨_, rfl, hm2.fin hp.upA hp.upB (.inr (by simpa using q3))⟩⟩
    · rw [if_neg q3]
      have q3' : ¬ at_ = 0 := by simpa using q3
      have at0 := Nat.pos_of_ne_zero q3'
      exact hi_t2 hA hp hm2 at0 h2 (yes _ (Nat.sub_lt at0 Nat.one_pos)) (Nat.le_trans (Nat.add_le_add_right (Nat.add_le_add_left hk _) nb) hc)
  · rw [if_neg q2]
    exact hi_t2 hA hp hm h1 h2 (yes _ (Nat.lt_of_lt_of_le (Nat.sub_lt h1 Nat.one_pos) (Nat.le_of_sub_eq_zero (Nat.eq_zero_of_not_pos q2)))) hc

theorem ts_mergeHi (hA : Answers prog w A s κ r P) {a b : Array Keyed} (hp : Pair r P a b) {Q : Array Keyed → SortSt → Prop} (h : ∀ res g', MergedA r a b res → Q res (sst κ arr pd g')) :
    wpS (model prog w) A E s (mergeHi' a b) Q (sst κ arr pd g) := by
  rw [mergeHi'_eq]
  refine wpS_bind (wpS_lift (wpAny_rule ⟨rfl, ?_⟩))
  have hpa := hp.posA
  have hpb := hp.posB
  have hi0 := Nat.sub_lt hpa Nat.one_pos
  refine wpS_bind (ts_elem hi0 ?_)
  have m1 : MH r a b (a.size - 1) b.size #[a[a.size - 1]'hi0] := (MH.zero r a b).pushA' hp hp.posA (fun q => hp.last _ (Nat.sub_lt hpb Nat.one_pos)) hi0
  dsimp only
  by_cases e1 : (a.size - 1 == 0) = true
  · rw [if_pos e1]
    exact wpS_pure (h _ g (m1.fin hp.upA hp.upB (.inr (by simpa using e1))))
  · rw [if_neg e1]
    by_cases e2 : (b.size == 1) = true
    · rw [if_pos e2]
      exact wpS_pure (h _ g (m1.last hp.upA hp.upB (by simpa using e2) hp.low))
    · rw [if_neg e2]
      refine wpS_bind (wpS_get ?_)
      have f1 : 1 < b.size := Nat.lt_of_le_of_ne hpb (Ne.symm (by simpa using e2))
      have f2 : 0 < a.size - 1 := Nat.pos_of_ne_zero (by simpa using e1)
      refine wpS_bind (wpS_mono (wpS_forRange
        (I := fun x c st' => ∃ g', st' = sst κ arr pd g' ∧ ∃ out na nb mg, c = (none, na, nb, out, mg) ∧ MH r a b na nb out ∧ 0 < na ∧ 1 < nb ∧ x + 1 + na + nb ≤ a.size + b.size)
        (Q := fun c st' => ∃ g', st' = sst κ arr pd g' ∧ ∃ res, c.1 = some res ∧ MergedA r a b res) ?step ?fin ⟨g, rfl, _, _, _, _, rfl, m1, f2, f1, Nat.le_of_eq (by rw [Nat.zero_add, Nat.add_sub_of_le hpa])⟩) ?post)
      case post =>
        rintro ⟨c, c'⟩ st' ⟨g', rfl, res, hc, hm⟩
        dsimp only at hc
        subst hc
        exact wpS_pure (h res g' hm)
      case fin =>
        intro c st' hI
        refine elg4 hI fun g' out na nb mg e1 e2 hR => ?_
        subst e1; subst e2
        have hm := hR.1
        have h1 := hR.2.1
        have h2 := hR.2.2.1
        have h3 := hR.2.2.2
        exact (hi_fin h1 h3 (Nat.le_succ_of_le (Nat.le_max_right _ _))).elim
      case step =>
        intro x c st' _ hx hI
        refine elg4 hI fun g' out na nb mg e1 e2 hR => ?_
        subst e1; subst e2
        have hm := hR.1
        have h1 := hR.2.1
        have h2 := hR.2.2.1
        have h3 := hR.2.2.2
        dsimp only
        refine wpS_bind (wpS_mono (wpS_forRange
          (I := fun _ c st' => st' = sst κ arr pd g' ∧ ∃ out na nb ac bc, c = (none, na, nb, out, ac, bc) ∧ MH r a b na nb out ∧ 0 < na ∧ 1 < nb ∧ x + 1 + na + nb ≤ a.size + b.size)
          (Q := fun c st' => st' = sst κ arr pd g' ∧ ((∃ res, c.1 = some res ∧ MergedA r a b res) ∨ ∃ out na nb ac bc, c = (none, na, nb, out, ac, bc) ∧ MH r a b na nb out ∧ 0 < na ∧ 1 < nb ∧ x + 1 + na + nb ≤ a.size + b.size)) ?step1 ?fin1 ⟨rfl, out, na, nb, 0, 0, rfl, hm, h1, h2, h3⟩) ?post1)
        case fin1 =>
          intro c st' hI
          refine el5 hI fun out na nb ac bc e1 e2 hR => ?_
          subst e1; subst e2
          have hm := hR.1
          have h1 := hR.2.1
          have h2 := hR.2.2.1
          have h3 := hR.2.2.2
          exact ⟨rfl, .inr ⟨out, na, nb, ac, bc, rfl, hm, h1, h2, h3⟩⟩
        case step1 =>
          intro y c st' _ hy hI
          refine el5 hI fun out na nb ac bc e1 e2 hR => ?_
          subst e1; subst e2
          have hm := hR.1
          have h1 := hR.2.1
          have h2 := hR.2.2.1
          have h3 := hR.2.2.2
          dsimp only
          have hia := pred_lt_of h1 hm.ha
          have nb0 := Nat.lt_of_succ_lt h2
          have hib := pred_lt_of nb0 hm.hb
          refine wpS_bind (ts_elem hib (wpS_bind (ts_elem hia (wpS_bind (ts_lt hA (hp.allB _ (by simp)) (hp.allA _ (by simp)) ?_)))))
          rw [← kk_at (r := r) hib, ← kk_at (r := r) hia]
          by_cases hlt : kk r b (nb - 1) < kk r a (na - 1)
          · simp only [hlt, decide_true, if_true]
            refine wpS_bind (ts_elem hia ?_)
            have hm' := hm.pushA' hp h1 (fun _ => hlt) hia
            by_cases q1 : (na - 1 == 0) = true
            · rw [if_pos q1]
              exact wpS_pure ⟨rfl, .inl ⟨_, rfl, hm'.fin hp.upA hp.upB (.inr (by simpa using q1))⟩⟩
            · rw [if_neg q1]
              have q1' : ¬ na - 1 = 0 := by simpa using q1
              by_cases q2 : ac + 1 ≥ mg
              · rw [if_pos q2]
                exact wpS_pure ⟨rfl, .inr ⟨_, _, _, _, _, rfl, hm', Nat.pos_of_ne_zero q1', h2, ar1 h3⟩⟩
              · rw [if_neg q2]
                exact wpS_pure ⟨rfl, _, _, _, _, _, rfl, hm', Nat.pos_of_ne_zero q1', h2, ar1 h3⟩
          · simp only [hlt, decide_false, Bool.false_eq_true, if_false]
            refine wpS_bind (ts_elem hib ?_)
            have hne := hp.ne (na - 1) (nb - 1) hia hib
            have hm' := hm.pushB' hp nb0 (fun _ => Nat.lt_of_le_of_ne (Nat.le_of_not_lt hlt) hne) hib
            by_cases q1 : (nb - 1 == 1) = true
            · rw [if_pos q1]
              exact wpS_pure ⟨rfl, .inl ⟨_, rfl, hm'.last hp.upA hp.upB (by simpa using q1) hp.low⟩⟩
            · rw [if_neg q1]
              have q1' : ¬ nb - 1 = 1 := by simpa using q1
              by_cases q2 : bc + 1 ≥ mg
              · rw [if_pos q2]
                exact wpS_pure ⟨rfl, .inr ⟨_, _, _, _, _, rfl, hm', h1, Nat.lt_of_le_of_ne (Nat.sub_pos_of_lt h2) (Ne.symm q1'), ar2 h3⟩⟩
              · rw [if_neg q2]
                exact wpS_pure ⟨rfl, _, _, _, _, _, rfl, hm', h1, Nat.lt_of_le_of_ne (Nat.sub_pos_of_lt h2) (Ne.symm q1'), ar2 h3⟩
        case post1 =>
          intro c st' hI
          have e0 := hI.1
          subst e0
          refine or_el5 hI.2 (fun res hc hres => ?_) (fun out na nb ac bc hc hR => ?_)
          · obtain ⟨c1, c2⟩ := c
            dsimp only at hc
            subst hc
            exact wpS_pure ⟨g', rfl, res, rfl, hres⟩
          · subst hc
            have hm := hR.1
            have h1 := hR.2.1
            have h2 := hR.2.2.1
            have h3 := hR.2.2.2
            dsimp only
            refine wpS_bind (wpS_lift (wpAny_rule ⟨rfl, ?_⟩))
            refine wpS_bind (wpS_mono (wpS_forRange (I := HiI κ r arr pd a b (x + 1)) (Q := HiQ κ r arr pd a b (x + 1)) ?step2 ?fin2 ⟨g', rfl, _, _, _, _, _, _, rfl, hm, h1, h2, h3⟩) ?post2)
            case fin2 =>
              intro c st' hI
              refine elg6 hI fun g' out na nb mg ac bc e1 e2 hR => ?_
              subst e1; subst e2
              have hm := hR.1
              have h1 := hR.2.1
              have h2 := hR.2.2.1
              have h3 := hR.2.2.2
              exact (hi_fin h1 h3 (Nat.le_trans (Nat.le_max_right _ _) (Nat.le_add_left _ _))).elim
            case step2 =>
              intro y c st' _ hy hI
              refine elg6 hI fun g' out na nb mg ac bc e1 e2 hR => ?_
              subst e1; subst e2
              have hm := hR.1
              have h1 := hR.2.1
              have h2 := hR.2.2.1
              have h3 := hR.2.2.2
              show wpS _ _ _ _ (if mg > 1 then (do setMinGallop' (mg - 1); hiT1 a b out na nb (mg - 1) ac bc) else (do setMinGallop' mg; hiT1 a b out na nb mg ac bc)) _ _
              by_cases q : mg > 1
              · rw [if_pos q]
                exact wpS_bind (ts_setGal (wpS_mono (hi_t1 hA hp hm h1 h2 h3) fun rr st' h => by cases rr <;> exact h))
              · rw [if_neg q]
                exact wpS_bind (ts_setGal (wpS_mono (hi_t1 hA hp hm h1 h2 h3) fun rr st' h => by cases rr <;> exact h))
            case post2 =>
              intro c st' hI
              refine el_g hI fun g' e0 hJ => ?_
              subst e0
              refine or_el6 hJ (fun res hc hres => ?_) (fun out na nb mg ac bc hc hR => ?_)
              · obtain ⟨c1, c2⟩ := c
                dsimp only at hc
                subst hc
                exact wpS_pure ⟨g', rfl, res, rfl, hres⟩
              · subst hc
                have hm := hR.1
                have h1 := hR.2.1
                have h2 := hR.2.2.1
                have h3 := hR.2.2.2
                dsimp only
                exact wpS_bind (ts_setGal (wpS_pure ⟨_, rfl, _, _, _, _, rfl, hm, h1, h2, h3⟩))
end
end Mine
end

-- TS7
section
set_option maxRecDepth 100000
open PySem PyProof.Rows
namespace Mine

theorem write_list : ∀ (l : List Keyed) (arr : Array Keyed) (i k : Nat), i + k + l.length ≤ arr.size →
    ((l.zipIdx k).foldl (fun a (p, j) => a.setIfInBounds (i + j) p) arr).toList = arr.toList.take (i + k) ++ l ++ arr.toList.drop (i + k + l.length)
  | [], arr, i, k, _ => by simp
  | p :: l, arr, i, k, h => by
    simp only [List.length_cons] at h
    have ee : i + (k + 1) + l.length = i + k + (l.length + 1) := Nat.add_right_comm (i + k) 1 l.length
    rw [List.zipIdx_cons, List.foldl_cons, write_list l (arr.setIfInBounds (i + k) p) i (k + 1) (by rw [Array.size_setIfInBounds, ee]; exact h)]
    rw [Array.toList_setIfInBounds]
    have e1 : (arr.toList.set (i + k) p).take (i + (k + 1)) = arr.toList.take (i + k) ++ [p] := by
      have hlen : i + k < arr.toList.length := Nat.lt_of_lt_of_le (Nat.lt_add_of_pos_right (Nat.succ_pos _)) h
      rw [show i + (k + 1) = (i + k) + 1 from rfl, List.take_succ_eq_append_getElem (by rw [List.length_set]; exact hlen)]
      congr 1
      · rw [List.take_set_of_le (Nat.le_refl _)]
      · simp
    have e2 : (arr.toList.set (i + k) p).drop (i + (k + 1) + l.length) = arr.toList.drop (i + k + (p :: l).length) := by
      rw [List.drop_set_of_lt (by rw [ee]; exact Nat.lt_add_of_pos_right (Nat.succ_pos _)), ee]
      rfl
    rw [e1, e2]
    simp

section
variable {prog : Program} {w : World} {A : Around} {E : Value → Shared → Prop} {s : Shared} {κ : SortKind} {r : Keyed → Nat} {P : Keyed → Prop} {g : Nat}

theorem mergeAt'_eq (i : Nat) : mergeAt' i = (do
  let s ← get
  let (some (sa, na, power), some (sb, nb, _)) := ((pendingOf s)[i]?, (pendingOf s)[i + 1]?) | unsupported "internal:list.sort.pending"
  set (setPending s (((pendingOf s).setIfInBounds i (sa, na + nb, power)).eraseIdxIfInBounds (i + 1)))
  let some k ← gallop' false (← elem' (arrOf s) sb) (arrOf s) sa na 0 | return false
  let (sa, na) := (sa + k, na - k)
  if na == 0 then return true
  let some nb ← gallop' true (← elem' (arrOf s) (sa + na - 1)) (arrOf s) sb nb (nb - 1) | return false
  if nb == 0 then return true
  let x := (arrOf s).extract sa sb
  let y := (arrOf s).extract sb (sb + nb)
  let merged ← if na ≤ nb then mergeLo' x y else mergeHi' x y
  modify fun s => setArr s (merged.toList.zipIdx.foldl (fun a (p, j) => a.setIfInBounds (sa + j) p) (arrOf s))
  return (failedOf (← get)).isNone) := rfl

theorem wpS_set {σ : Type} {M : Model} {f : σ} {Q : PUnit → σ → Prop} {st : σ} (h : Q ⟨⟩ f) : wpS M A E s (set f : StateT σ Sem PUnit) Q st := by
  unfold wpS; rw [StateT.run_set]; exact wpAny_pure ⟨rfl, h⟩

theorem kk_ext {arr : Array Keyed} {i j k : Nat} (h : i + k < j) (hj : j ≤ arr.size) : kk r (arr.extract i j) k = kk r arr (i + k) := by
  apply kk_congr
  rw [Array.getElem?_extract]
  have : k < min j arr.size - i := by rw [Nat.min_eq_left hj]; exact Nat.lt_sub_of_add_lt (Nat.add_comm i k ▸ h)
  simp [this]

theorem up_of_sl {a : Array Keyed} (h : SL r a.toList) : Up r a 0 a.size := h.up 0 a.size (Nat.le_refl _)

theorem ts_mergeAt (hA : Answers prog w A s κ r P) {arr : Array Keyed} (hI : Items r P arr) {n1 n2 p1 p2 : Nat} (hsz : arr.size = n1 + n2) (h1 : 0 < n1) (h2 : 0 < n2) (hU1 : Up r arr 0 n1) (hU2 : Up r arr n1 (n1 + n2)) {Q : Bool → SortSt → Prop}
    (h : ∀ arr' g', arr'.Perm arr → Up r arr' 0 arr'.size → Q true (sst κ arr' #[(0, n1 + n2, p1)] g')) : wpS (model prog w) A E s (mergeAt' 0) Q (sst κ arr #[(0, n1, p1), (n1, n2, p2)] g) := by
  rw [mergeAt'_eq]
  refine wpS_bind (wpS_get ?_)
  dsimp only [List.getElem?_toArray]
  refine wpS_bind (wpS_set ?_)
  have e9 : ((pendingOf (sst κ arr #[(0, n1, p1), (n1, n2, p2)] g)).setIfInBounds 0 (0, n1 + n2, p1)).eraseIdxIfInBounds (0 + 1) = #[(0, n1 + n2, p1)] := by
    show (#[(0, n1, p1), (n1, n2, p2)].setIfInBounds 0 (0, n1 + n2, p1)).eraseIdxIfInBounds 1 = _
    apply Array.ext'
    simp [Array.eraseIdxIfInBounds]
  rw [e9]
  show wpS _ _ _ _ _ Q (sst κ arr #[(0, n1 + n2, p1)] g)
  rw [show arrOf (sst κ arr #[(0, n1, p1), (n1, n2, p2)] g) = arr from rfl]
  have hb : n1 < arr.size := by rw [hsz]; exact Nat.lt_add_of_pos_right h2
  refine wpS_bind (ts_elem hb (wpS_bind (ts_gallop hA (hI.at hb) hI.all (by rw [Nat.zero_add]; exact Nat.le_of_lt hb) (fun i j e1 e2 e3 => hU1 i j e1 e2 (Nat.zero_add n1 ▸ e3)) h1 fun k hk hyes hno => ?_)))
  have yes : ∀ i, i < k → kk r arr i < kk r arr n1 := fun i e => by
    have := hyes i e
    unfold bey at this
    simp only [Bool.false_eq_true, if_false, Bool.not_eq_true', decide_eq_false_iff_not] at this
    rw [← kk_at (r := r) hb, Nat.zero_add] at this
    have e' := Nat.lt_of_lt_of_le e hk
    exact Nat.lt_of_le_of_ne (Nat.le_of_not_lt this) (hI.ne (Nat.lt_trans e' hb) hb (Nat.ne_of_lt e'))
  have no : ∀ i, k ≤ i → i < n1 → kk r arr n1 < kk r arr i := fun i e1 e2 => by
    have := hno i e1 e2
    unfold bey at this
    simp only [Bool.false_eq_true, if_false, Bool.not_eq_false', decide_eq_true_eq] at this
    rw [← kk_at (r := r) hb, Nat.zero_add] at this
    exact this
  have headB : ∀ j, n1 ≤ j → j < n1 + n2 → kk r arr n1 ≤ kk r arr j := fun j e1 e2 => by
    by_cases e : n1 = j
    · rw [e]; exact Nat.le_refl _
    · exact Nat.le_of_lt (hU2 n1 j (Nat.le_refl _) (Nat.lt_of_le_of_ne e1 e) e2)
  dsimp only
  by_cases q1 : (n1 - k == 0) = true
  · rw [if_pos q1]
    have q1' : n1 - k = 0 := by simpa using q1
    refine wpS_pure (h arr g (Array.Perm.refl _) fun i j e1 e2 e3 => ?_)
    by_cases c1 : j < n1
    · exact hU1 i j e1 e2 c1
    · by_cases c2 : n1 ≤ i
      · exact hU2 i j c2 e2 (hsz ▸ e3)
      · exact Nat.lt_of_lt_of_le (yes i (Nat.lt_of_lt_of_le (Nat.lt_of_not_le c2) (Nat.le_of_sub_eq_zero q1'))) (headB j (Nat.le_of_not_lt c1) (hsz ▸ e3))
  · rw [if_neg q1]
    have q1' : ¬ n1 - k = 0 := by simpa using q1
    have hkl : k < n1 := Nat.lt_of_not_le fun q => q1' (Nat.sub_eq_zero_of_le q)
    have hkp := Nat.sub_pos_of_lt hkl
    have hlast : n1 - 1 < n1 := Nat.sub_lt h1 Nat.one_pos
    have el : 0 + k + (n1 - k) - 1 = n1 - 1 := by rw [Nat.zero_add, Nat.add_sub_of_le hk]
    have hl : 0 + k + (n1 - k) - 1 < arr.size := by rw [el]; exact Nat.lt_trans hlast hb
    refine wpS_bind (ts_elem hl (wpS_bind (ts_gallop hA (hI.at hl) hI.all (Nat.le_of_eq hsz.symm) hU2 (Nat.sub_lt h2 Nat.one_pos) fun nb hnb hyes2 hno2 => ?_)))
    have yes2 : ∀ i, n1 ≤ i → i < n1 + nb → kk r arr i < kk r arr (n1 - 1) := fun i e1 e2 => by
      have := hyes2 (i - n1) (Nat.sub_lt_left_of_lt_add e1 e2)
      unfold bey at this
      simp only [if_true, decide_eq_true_eq] at this
      rw [← kk_at (r := r) hl, el, Nat.add_sub_of_le e1] at this
      exact this
    have no2 : ∀ i, n1 + nb ≤ i → i < n1 + n2 → kk r arr (n1 - 1) < kk r arr i := fun i e1 e2 => by
      have hi := Nat.le_trans (Nat.le_add_right n1 nb) e1
      have := hno2 (i - n1) (Nat.le_sub_of_add_le' e1) (Nat.sub_lt_left_of_lt_add hi e2)
      unfold bey at this
      simp only [if_true, decide_eq_false_iff_not] at this
      rw [← kk_at (r := r) hl, el, Nat.add_sub_of_le hi] at this
      exact Nat.lt_of_le_of_ne (Nat.le_of_not_lt this) (hI.ne (Nat.lt_trans hlast hb) (hsz ▸ e2) (Nat.ne_of_lt (Nat.lt_of_lt_of_le hlast hi)))
    have lastA : ∀ i, i < n1 → kk r arr i ≤ kk r arr (n1 - 1) := fun i e => by
      by_cases e' : i = n1 - 1
      · rw [e']; exact Nat.le_refl _
      · exact Nat.le_of_lt (hU1 i (n1 - 1) (Nat.zero_le _) (Nat.lt_of_le_of_ne (Nat.le_sub_one_of_lt e) e') hlast)
    dsimp only
    by_cases q2 : (nb == 0) = true
    · rw [if_pos q2]
      have q2' : nb = 0 := by simpa using q2
      refine wpS_pure (h arr g (Array.Perm.refl _) fun i j e1 e2 e3 => ?_)
      by_cases c1 : j < n1
      · exact hU1 i j e1 e2 c1
      · by_cases c2 : n1 ≤ i
        · exact hU2 i j c2 e2 (hsz ▸ e3)
        · exact Nat.lt_of_le_of_lt (lastA i (Nat.lt_of_not_le c2)) (no2 j (by rw [q2', Nat.add_zero]; exact Nat.le_of_not_lt c1) (hsz ▸ e3))
    · rw [if_neg q2]
      have q2' : ¬ nb = 0 := by simpa using q2
      have hnb' : n1 + nb ≤ arr.size := hsz ▸ Nat.add_le_add_left hnb n1
      have hj2 : ∀ j, j < nb → n1 + j < n1 + n2 := fun j h => Nat.add_lt_add_left (Nat.lt_of_lt_of_le h hnb) n1
      have sx : (arr.extract (0 + k) n1).size = n1 - k := by rw [Array.size_extract, Nat.min_eq_left (Nat.le_of_lt hb), Nat.zero_add]
      have sy : (arr.extract n1 (n1 + nb)).size = nb := by rw [Array.size_extract, Nat.min_eq_left hnb', Nat.add_sub_cancel_left]
      have kx : ∀ i, i < n1 - k → kk r (arr.extract (0 + k) n1) i = kk r arr (k + i) := fun i hi => by rw [kk_ext (by rw [Nat.zero_add]; exact Nat.add_lt_of_lt_sub' hi) (Nat.le_of_lt hb), Nat.zero_add]
      have ky : ∀ j, j < nb → kk r (arr.extract n1 (n1 + nb)) j = kk r arr (n1 + j) := fun j hj => kk_ext (Nat.add_lt_add_left hj n1) hnb'
      have hp : Pair r P (arr.extract (0 + k) n1) (arr.extract n1 (n1 + nb)) := by
        refine ⟨fun p hp => hI.all p ?_, fun p hp => hI.all p ?_, fun i j e1 e2 e3 => ?_, fun i j e1 e2 e3 => ?_, fun i j e1 e2 => ?_, by rw [sx]; exact hkp, by rw [sy]; exact Nat.pos_of_ne_zero q2', ?_, fun j e1 => ?_⟩
        · have := List.mem_of_mem_drop (List.mem_of_mem_take (show p ∈ (arr.toList.drop (0 + k)).take (n1 - (0 + k)) by simpa using hp))
          exact this
        · have := List.mem_of_mem_drop (List.mem_of_mem_take (show p ∈ (arr.toList.drop n1).take (n1 + nb - n1) by simpa using hp))
          exact this
        · rw [sx] at e3
          rw [kx i (Nat.lt_trans e2 e3), kx j e3]
          exact hU1 _ _ (Nat.zero_le _) (Nat.add_lt_add_left e2 k) (Nat.add_lt_of_lt_sub' e3)
        · rw [sy] at e3
          rw [ky i (Nat.lt_trans e2 e3), ky j e3]
          exact hU2 _ _ (Nat.le_add_right _ _) (Nat.add_lt_add_left e2 n1) (hj2 j e3)
        · rw [sx] at e1
          rw [sy] at e2
          rw [kx i e1, ky j e2]
          have a := Nat.add_lt_of_lt_sub' e1
          exact hI.ne (Nat.lt_trans a hb) (hsz ▸ hj2 j e2) (Nat.ne_of_lt (Nat.lt_of_lt_of_le a (Nat.le_add_right n1 j)))
        · rw [ky 0 (Nat.pos_of_ne_zero q2'), kx 0 hkp]
          exact no _ (Nat.le_add_right k 0) hkl
        · rw [sy] at e1
          rw [sx, ky j e1, kx _ (Nat.sub_lt hkp Nat.one_pos), ← Nat.add_sub_assoc hkp, Nat.add_sub_of_le hk]
          exact yes2 _ (Nat.le_add_right _ _) (Nat.add_lt_add_left e1 n1)
      have fin : ∀ res g', MergedA r (arr.extract (0 + k) n1) (arr.extract n1 (n1 + nb)) res →
          wpS (model prog w) A E s (do
            modify fun s => setArr s (res.toList.zipIdx.foldl (fun a (p, j) => a.setIfInBounds (0 + k + j) p) (arrOf s))
            return (failedOf (← get)).isNone) Q (sst κ arr #[(0, n1 + n2, p1)] g') := by
        intro res g' hm
        refine wpS_bind (wpS_modify ?_)
        refine wpS_bind (wpS_get (wpS_pure ?_))
        show Q true (sst κ (res.toList.zipIdx.foldl (fun a (p, j) => a.setIfInBounds (0 + k + j) p) arr) #[(0, n1 + n2, p1)] g')
        have hlen : res.toList.length = (n1 - k) + nb := by
          rw [hm.perm.length_eq, List.length_append, Array.length_toList, Array.length_toList, sx, sy]
        have hw := write_list res.toList arr (0 + k) 0 (by rw [hlen, Nat.add_zero, Nat.zero_add, ← Nat.add_assoc, Nat.add_sub_of_le hk]; exact hnb')
        generalize hres' : res.toList.zipIdx.foldl (fun a (p, j) => a.setIfInBounds (0 + k + j) p) arr = arr' at *
        have e0 : arr.toList = arr.toList.take k ++ ((arr.extract (0 + k) n1).toList ++ (arr.extract n1 (n1 + nb)).toList) ++ arr.toList.drop (n1 + nb) := by
          have x1 : (arr.extract (0 + k) n1).toList = (arr.toList.drop k).take (n1 - k) := by simp
          have x2 : (arr.extract n1 (n1 + nb)).toList = (arr.toList.drop n1).take nb := by simp
          rw [x1, x2]
          have y1 := drop_split arr.toList k (n1 - k)
          have y2 := drop_split arr.toList n1 nb
          rw [Nat.add_sub_of_le hk] at y1
          calc arr.toList = arr.toList.take k ++ arr.toList.drop k := (List.take_append_drop _ _).symm
            _ = _ := by
              conv => lhs; rw [y1, y2]
              simp only [List.append_assoc]
        rw [show 0 + k + 0 = k from Nat.zero_add k, show k + res.toList.length = n1 + nb by rw [hlen, ← Nat.add_assoc, Nat.add_sub_of_le hk]] at hw
        refine h arr' g' (Array.perm_iff_toList_perm.mpr ?_) (up_of_sl ?_)
        · rw [hw]
          conv => rhs; rw [e0]
          exact (hm.perm.append_left _).append_right _
        · rw [hw]
          have hin : ∀ y ∈ res.toList, (∃ j, k ≤ j ∧ j < n1 + nb ∧ r y = kk r arr j) := by
            intro y hy
            rcases List.mem_append.mp (hm.perm.mem_iff.mp hy) with q | q
            · have q' : y ∈ (arr.toList.drop k).take (n1 - k) := by simpa using q
              obtain ⟨j, z1, z2, _, z3⟩ := mem_seg_kk (r := r) q'
              exact ⟨j, z1, Nat.lt_of_lt_of_le (Nat.add_sub_of_le hk ▸ z2) (Nat.le_add_right _ _), z3⟩
            · have q' : y ∈ (arr.toList.drop n1).take nb := by simpa using q
              obtain ⟨j, z1, z2, _, z3⟩ := mem_seg_kk (r := r) q'
              exact ⟨j, Nat.le_trans hk z1, z2, z3⟩
          have hlow : ∀ x ∈ arr.toList.take k, ∃ i, i < k ∧ r x = kk r arr i := by
            intro x hx
            have q' : x ∈ (arr.toList.drop 0).take k := by simpa using hx
            obtain ⟨j, _, z2, _, z3⟩ := mem_seg_kk (r := r) q'
            exact ⟨j, Nat.zero_add k ▸ z2, z3⟩
          have hhigh : ∀ x ∈ arr.toList.drop (n1 + nb), ∃ i, n1 + nb ≤ i ∧ i < n1 + n2 ∧ r x = kk r arr i := by
            intro x hx
            obtain ⟨j, z1, z2, z3⟩ := mem_drop_kk (r := r) hx
            exact ⟨j, z1, hsz ▸ z2, z3⟩
          have lowlt : ∀ i j, i < k → k ≤ j → j < n1 + n2 → kk r arr i < kk r arr j := fun i j c1 c2 c3 => by
            by_cases c : j < n1
            · exact hU1 i j (Nat.zero_le _) (Nat.lt_of_lt_of_le c1 c2) c
            · exact Nat.lt_of_lt_of_le (yes i c1) (headB j (Nat.le_of_not_lt c) c3)
          have highlt : ∀ i j, i < n1 + nb → n1 + nb ≤ j → j < n1 + n2 → kk r arr i < kk r arr j := fun i j c1 c2 c3 => by
            by_cases c : i < n1
            · exact Nat.lt_of_le_of_lt (lastA i c) (no2 j c2 c3)
            · exact hU2 i j (Nat.le_of_not_lt c) (Nat.lt_of_lt_of_le c1 c2) c3
          refine List.pairwise_append.mpr ⟨List.pairwise_append.mpr ⟨?_, hm.up, fun x hx y hy => ?_⟩, ?_, fun x hx y hy => ?_⟩
          · refine List.pairwise_iff_getElem.mpr fun i j c1 c2 c3 => ?_
            have cj : j < n1 := Nat.lt_of_lt_of_le (Nat.lt_of_lt_of_le c2 (List.length_take_le _ _)) hk
            have := hU1 i j (Nat.zero_le _) c3 cj
            rw [kk_at (Nat.lt_trans (Nat.lt_trans c3 cj) hb), kk_at (Nat.lt_trans cj hb)] at this
            simpa using this
          · obtain ⟨i, c1, c2⟩ := hlow x hx
            obtain ⟨j, c3, c4, c5⟩ := hin y hy
            rw [c2, c5]
            exact lowlt i j c1 c3 (Nat.lt_of_lt_of_le c4 (Nat.add_le_add_left hnb n1))
          · refine List.pairwise_iff_getElem.mpr fun i j c1 c2 c3 => ?_
            have cj : n1 + nb + j < arr.size := by rw [List.length_drop] at c2; exact Nat.add_lt_of_lt_sub' c2
            have ci := Nat.add_lt_add_left c3 (n1 + nb)
            have := hU2 (n1 + nb + i) (n1 + nb + j) (Nat.le_trans (Nat.le_add_right _ _) (Nat.le_add_right _ _)) ci (hsz ▸ cj)
            rw [kk_at (Nat.lt_trans ci cj), kk_at cj] at this
            simpa using this
          · obtain ⟨j, c3, c4, c5⟩ := hhigh y hy
            rcases List.mem_append.mp hx with q | q
            · obtain ⟨i, c1, c2⟩ := hlow x q
              rw [c2, c5]
              exact lowlt i j c1 (Nat.le_trans hk (Nat.le_trans (Nat.le_add_right _ _) c3)) c4
            · obtain ⟨i, c1, c2, c6⟩ := hin x q
              rw [c6, c5]
              exact highlt i j c2 c3 c4
      by_cases q3 : n1 - k ≤ nb
      · rw [if_pos q3]
        exact wpS_bind (ts_mergeLo hA hp fun res g' hm => fin res g' hm)
      · rw [if_neg q3]
        exact wpS_bind (ts_mergeHi hA hp fun res g' hm => fin res g' hm)
end
end Mine
end

-- TS8
section
set_option maxRecDepth 100000
open PySem PyProof.Rows
namespace Mine

theorem minrun_facts {n : Nat} (h2 : 2 ≤ n) (h66 : n ≤ 66) : 1 ≤ minRun' n n 0 ∧ minRun' n n 0 ≤ n ∧ n ≤ 2 * minRun' n n 0 := by
  have key : ∀ k : Fin 67, 2 ≤ k.val → 1 ≤ minRun' k.val k.val 0 ∧ minRun' k.val k.val 0 ≤ k.val ∧ k.val ≤ 2 * minRun' k.val k.val 0 := by
    intro k hk
    by_cases h : k.val < 64
    · obtain ⟨f, hf⟩ : ∃ f, k.val = f + 1 := Nat.exists_eq_succ_of_ne_zero (Nat.ne_zero_of_lt (Nat.lt_of_lt_of_le Nat.zero_lt_two hk))
      have e : minRun' k.val k.val 0 = k.val := by
        rw [hf, minRun'_succ, if_pos (hf ▸ h)]
      rw [e]; exact ⟨Nat.le_trans (by decide) hk, Nat.le_refl _, dbl _⟩
    · have : k.val = 64 ∨ k.val = 65 ∨ k.val = 66 := by have := k.isLt; lia
      rcases this with q | q | q <;> rw [q]
      · have e : minRun' 64 64 0 = 32 := by rw [minRun'_succ, if_neg (by decide), minRun'_succ, if_pos (by decide)]; rfl
        rw [e]; decide
      · have e : minRun' 65 65 0 = 33 := by rw [minRun'_succ, if_neg (by decide), minRun'_succ, if_pos (by decide)]; rfl
        rw [e]; decide
      · have e : minRun' 66 66 0 = 33 := by rw [minRun'_succ, if_neg (by decide), minRun'_succ, if_pos (by decide)]; rfl
        rw [e]; decide
  exact key ⟨n, Nat.lt_succ_of_le h66⟩ h2

section
variable {prog : Program} {w : World} {A : Around} {E : Value → Shared → Prop} {s : Shared} {κ : SortKind} {r : Keyed → Nat} {P : Keyed → Prop} {a : Array Keyed}

/-- the runs so far -/
inductive Runs (r : Keyed → Nat) (mr n : Nat) : Nat → Array Keyed → Array (Nat × Nat × Nat) → Prop where
  | none (a : Array Keyed) : Runs r mr n 0 a #[]
  | one (a : Array Keyed) (m : Nat) (h1 : mr ≤ m) (h2 : m ≤ n) (hu : Up r a 0 m) : Runs r mr n m a #[(0, m, 0)]
  | two (a : Array Keyed) (n1 n2 p : Nat) (h1 : 0 < n1) (h2 : 0 < n2) (h3 : n1 + n2 = n) (hu : Up r a 0 n1) (hv : Up r a n1 (n1 + n2)) : Runs r mr n n a #[(0, n1, p), (n1, n2, 0)]

theorem Runs.le {mr n lo : Nat} {pd : Array (Nat × Nat × Nat)} (h : Runs r mr n lo a pd) : lo ≤ n := by
  cases h with
  | none => exact Nat.zero_le _
  | one _ _ _ h => exact h
  | two => exact Nat.le_refl _
theorem Runs.mr_le {mr n lo : Nat} {pd : Array (Nat × Nat × Nat)} (h : Runs r mr n lo a pd) (m : mr ≤ n) (p : 0 < lo) : mr ≤ lo := by
  cases h with
  | none => exact absurd p (Nat.lt_irrefl _)
  | one _ _ h => exact h
  | two => exact m

noncomputable def stepEnd (size lo n : Nat) : StateT SortSt Sem (ForInStep (Option Unit × Nat)) := do
  let st ← get
  match (pendingOf st).back? with
  | some (s1, n1, _) => do
    let __s ← forIn [0:size] ((none, ()) : Option Unit × Unit) fun _ _ => (do
      let st ← get
      match (if (pendingOf st).size > 1 then (pendingOf st)[(pendingOf st).size - 2]? else none) with
      | some (_, _, older) =>
        if older ≤ power' size (2 * s1 + n1) (2 * s1 + n1 + n1 + n) size then pure (ForInStep.done (none, ()))
        else do
          let r ← mergeAt' ((pendingOf st).size - 2)
          if (!r) = true then pure (ForInStep.done (some (), ())) else pure (ForInStep.yield (none, ()))
      | _ => pure (ForInStep.done (none, ())))
    match __s.fst with
    | some r => pure (ForInStep.done (some r, lo))
    | none => do
      modify fun s => setPending s ((pendingOf s).modify ((pendingOf s).size - 1) fun x => (x.1, x.2.1, power' size (2 * s1 + n1) (2 * s1 + n1 + n1 + n) size))
      modify fun s => setPending s ((pendingOf s).push (lo, n, 0))
      pure (ForInStep.yield (none, lo + n))
  | _ => do
    modify fun s => setPending s ((pendingOf s).push (lo, n, 0))
    pure (ForInStep.yield (none, lo + n))

theorem wpS_congr {α : Type} {M : Model} {m m' : StateT SortSt Sem α} {Q : α → SortSt → Prop} {st : SortSt} (e : m = m') (h : wpS M A E s m' Q st) : wpS M A E s m Q st := e ▸ h

def TurnI (κ : SortKind) (r : Keyed → Nat) (mr : Nat) (a : Array Keyed) (x : Nat) (c : Option Unit × Nat) (st' : SortSt) : Prop :=
  ∃ lo a' pd, c = (none, lo) ∧ st' = sst κ a' pd 7 ∧ a'.Perm a ∧ Runs r mr a.size lo a' pd ∧ (x = 0 → lo = 0) ∧ (x = 1 → mr ≤ lo) ∧ (2 ≤ x → lo = a.size)
def TurnQ (κ : SortKind) (r : Keyed → Nat) (mr : Nat) (a : Array Keyed) (c : Option Unit × Nat) (st' : SortSt) : Prop :=
  ∃ a' pd, c = (none, a.size) ∧ st' = sst κ a' pd 7 ∧ a'.Perm a ∧ Runs r mr a.size a.size a' pd

theorem ts_stepEnd {mr x lo n : Nat} {a' b : Array Keyed} {pd : Array (Nat × Nat × Nat)} (m1 : 1 ≤ mr) (m3 : a.size ≤ 2 * mr) (hp : a'.Perm a) (hr : Runs r mr a.size lo a' pd) (hx1 : x = 1 → mr ≤ lo) (hx2 : 2 ≤ x → lo = a.size) (hlt : lo < a.size)
    (hW : Within a' b lo (lo + (a.size - lo))) (hU : Up r b lo (lo + n)) (hn : n ≤ a.size - lo) (hn0 : 0 < n) (hl0 : lo = 0 → mr ≤ n) (hl1 : 0 < lo → n = a.size - lo) :
    wpS (model prog w) A E s (stepEnd a.size lo n) (fun rr st' => match rr with | .done c' => TurnQ κ r mr a c' st' | .yield c' => TurnI κ r mr a (x + 1) c' st') (sst κ b pd 7) := by
  unfold stepEnd
  refine wpS_bind (wpS_get ?_)
  cases hr with
  | none =>
    show wpS _ _ _ _ (do
        modify fun s => setPending s ((pendingOf s).push (0, n, 0))
        pure (ForInStep.yield ((none : Option Unit), 0 + n))) _ _
    refine wpS_bind (wpS_modify (wpS_pure ⟨0 + n, b, #[(0, n, 0)], rfl, rfl, hW.perm.trans hp, ?_, fun q => absurd q (Nat.succ_ne_zero _), fun _ => by rw [Nat.zero_add]; exact hl0 rfl, fun q => ?_⟩))
    · rw [Nat.zero_add]
      rw [Nat.zero_add] at hU
      exact .one b n (hl0 rfl) hn hU
    · rcases Nat.eq_or_lt_of_le (Nat.le_of_succ_le_succ q) with e | e
      · exact absurd (hx1 e.symm) (Nat.not_le_of_lt m1)
      · exact absurd (hx2 e) (Nat.ne_of_lt hlt)
  | one _ m h1 h2 hu =>
    have lo0 := Nat.lt_of_lt_of_le m1 h1
    have e2 : lo + n = a.size := by rw [hl1 lo0, Nat.add_sub_of_le h2]
    show wpS _ _ _ _ (do
        let __s ← forIn [0:a.size] ((none, ()) : Option Unit × Unit) fun _ _ => (do
          let st ← get
          match (if (pendingOf st).size > 1 then (pendingOf st)[(pendingOf st).size - 2]? else none) with
          | some (_, _, older) =>
            if older ≤ power' a.size (2 * 0 + lo) (2 * 0 + lo + lo + n) a.size then pure (ForInStep.done (none, ()))
            else do
              let r ← mergeAt' ((pendingOf st).size - 2)
              if (!r) = true then pure (ForInStep.done (some (), ())) else pure (ForInStep.yield (none, ()))
          | _ => pure (ForInStep.done (none, ())))
        match __s.fst with
        | some r => pure (ForInStep.done (some r, lo))
        | none => do
          modify fun s => setPending s ((pendingOf s).modify ((pendingOf s).size - 1) fun x => (x.1, x.2.1, power' a.size (2 * 0 + lo) (2 * 0 + lo + lo + n) a.size))
          modify fun s => setPending s ((pendingOf s).push (lo, n, 0))
          pure (ForInStep.yield (none, lo + n))) _ _
    refine wpS_bind (wpS_mono (wpS_forRange (I := fun _ c st'' => st'' = sst κ b #[(0, lo, 0)] 7 ∧ c = (none, ())) (Q := fun c st'' => st'' = sst κ b #[(0, lo, 0)] 7 ∧ c = (none, ())) ?_ (fun _ _ hh => hh) ⟨rfl, rfl⟩) ?_)
    · rintro x c st'' _ _ ⟨rfl, rfl⟩
      refine wpS_bind (wpS_get ?_)
      exact wpS_pure ⟨rfl, rfl⟩
    · rintro c st'' ⟨rfl, rfl⟩
      refine wpS_bind (wpS_modify (wpS_bind (wpS_modify (wpS_pure ?_))))
      have e : (#[(0, lo, 0)].modify (#[(0, lo, 0)].size - 1) fun x => (x.1, x.2.1, power' a.size (2 * 0 + lo) (2 * 0 + lo + lo + n) a.size)) = #[(0, lo, power' a.size (2 * 0 + lo) (2 * 0 + lo + lo + n) a.size)] := by
        apply Array.ext'; simp [Array.modify, Array.modifyM]
      refine ⟨lo + n, b, #[(0, lo, power' a.size (2 * 0 + lo) (2 * 0 + lo + lo + n) a.size), (lo, n, 0)], rfl, ?_, hW.perm.trans hp, ?_, fun q => absurd q (Nat.succ_ne_zero _), fun _ => Nat.le_trans h1 (Nat.le_add_right _ _), fun _ => e2⟩
      · show SortSt.mk' κ b ((#[(0, lo, 0)].modify (#[(0, lo, 0)].size - 1) fun x => (x.1, x.2.1, power' a.size (2 * 0 + lo) (2 * 0 + lo + lo + n) a.size)).push (lo, n, 0)) 7 none = _
        rw [e]
        rfl
      · have hk : ∀ i, i < lo → kk r b i = kk r a' i := fun i hi => kk_congr (hW.off i (.inl hi))
        have := Runs.two (r := r) (mr := mr) (n := a.size) b lo n (power' a.size (2 * 0 + lo) (2 * 0 + lo + lo + n) a.size) lo0 hn0 e2 (fun i j e1 e2 e3 => by rw [hk i (Nat.lt_trans e2 e3), hk j e3]; exact hu i j e1 e2 e3) hU
        rw [e2]
        exact this
  | two => exact absurd hlt (Nat.lt_irrefl _)

theorem ts_sortRuns (hA : Answers prog w A s κ r P) (hI : Items r P a) (h2 : 2 ≤ a.size) (h66 : a.size ≤ 66) {Q : Unit → SortSt → Prop}
    (h : ∀ a' pd g, a'.Perm a → Up r a' 0 a'.size → Q () (sst κ a' pd g)) : wpS (model prog w) A E s sortRuns' Q (sst κ a #[] 7) := by
  rw [sortRuns'_eq]
  refine wpS_bind (wpS_get ?_)
  dsimp only
  rw [show arrOf (sst κ a #[] 7) = a from rfl]
  obtain ⟨m1, m2, m3⟩ := minrun_facts h2 h66
  generalize minRun' a.size a.size 0 = mr at *
  refine wpS_bind (wpS_mono (wpS_forRange (I := TurnI κ r mr a) (Q := TurnQ κ r mr a) ?step ?fin ⟨0, a, #[], rfl, rfl, Array.Perm.refl _, .none _, fun _ => rfl, fun q => absurd q (by decide), fun q => absurd q (by decide)⟩) ?post)
  case fin =>
    rintro c st' ⟨lo, a', pd, rfl, rfl, hp, hr, _, _, hx⟩
    have : lo = a.size := hx (Nat.le_trans h2 (Nat.le_max_right _ _))
    subst this
    exact ⟨a', pd, rfl, rfl, hp, hr⟩
  case step =>
    rintro x c st' _ hx ⟨lo, a', pd, rfl, rfl, hp, hr, hx0, hx1, hx2⟩
    dsimp only
    by_cases hge : lo ≥ a.size
    · rw [if_pos hge]
      have : lo = a.size := Nat.le_antisymm hr.le hge
      subst this
      exact wpS_pure ⟨a', pd, rfl, rfl, hp, hr⟩
    · rw [if_neg hge]
      have hI' := hI.perm hp
      have hsz : a'.size = a.size := hp.size_eq
      have hlo := Nat.lt_of_not_ge hge
      have hlr := Nat.add_sub_of_le hr.le
      have hlm : 0 < lo → a.size - lo ≤ mr := fun q => Nat.sub_le_iff_le_add.mpr (Nat.le_trans m3 (by rw [Nat.two_mul]; exact Nat.add_le_add_left (hr.mr_le m2 q) mr))
      refine wpS_bind (ts_count hA hI' (by rw [hlr, hsz]; exact Nat.le_refl _) (Nat.sub_pos_of_lt hlo) fun m b hW hm1 hm2 hU => ?_)
      dsimp only
      by_cases hlt : m < mr
      · rw [if_pos hlt]
        refine wpS_bind (wpS_lift (wpAny_rule ⟨rfl, ?_⟩))
        have hI2 := hI'.perm hW.perm
        have hs2 : b.size = a.size := hW.size.trans hsz
        refine wpS_bind (ts_binary hA hI2 (by rw [hs2]; exact Nat.le_trans (Nat.add_le_add_left (Nat.min_le_left _ _) lo) (Nat.le_of_eq hlr)) (Nat.le_min.mpr ⟨hm2, Nat.le_of_lt hlt⟩) hU fun c hWc hUc => ?_)
        simp only [Bool.not_true, Bool.false_eq_true, if_false]
        have hWc' : Within b c lo (lo + (a.size - lo)) := ⟨hWc.perm, fun k hk => hWc.off k (hk.imp id (Nat.le_trans (Nat.add_le_add_left (Nat.min_le_left _ _) lo)))⟩
        refine wpS_congr (m' := stepEnd a.size lo (min (a.size - lo) mr)) ?e1 ?_
        case e1 =>
          unfold stepEnd
          congr 1; funext st1
          generalize (pendingOf st1).back? = bk
          cases bk with
          | none => rfl
          | some v =>
            obtain ⟨v1, v2, v3⟩ := v
            dsimp only
            congr 1
            funext s1
            obtain ⟨r1, u1⟩ := s1
            cases r1 <;> rfl
        exact wpS_mono (ts_stepEnd m1 m3 hp hr hx1 hx2 hlo (hW.trans hWc') hUc (Nat.min_le_left _ _) (Nat.lt_min.mpr ⟨Nat.sub_pos_of_lt hlo, m1⟩) (fun q => Nat.le_min.mpr ⟨by rw [q]; exact m2, Nat.le_refl _⟩) (fun q => Nat.min_eq_left (hlm q))) (fun rr st' h => by cases rr <;> exact h)
      · rw [if_neg hlt]
        refine wpS_congr (m' := stepEnd a.size lo m) ?e2 ?_
        case e2 =>
          unfold stepEnd
          congr 1; funext st1
          generalize (pendingOf st1).back? = bk
          cases bk with
          | none => rfl
          | some v =>
            obtain ⟨v1, v2, v3⟩ := v
            dsimp only
            congr 1
            funext s1
            obtain ⟨r1, u1⟩ := s1
            cases r1 <;> rfl
        exact wpS_mono (ts_stepEnd m1 m3 hp hr hx1 hx2 hlo hW hU hm2 (Nat.lt_of_lt_of_le m1 (Nat.le_of_not_lt hlt)) (fun _ => Nat.le_of_not_lt hlt) (fun q => Nat.le_antisymm hm2 (Nat.le_trans (hlm q) (Nat.le_of_not_lt hlt)))) (fun rr st' h => by cases rr <;> exact h)
  case post =>
    rintro c st' ⟨a', pd, rfl, rfl, hp, hr⟩
    dsimp only
    have hsz : a'.size = a.size := hp.size_eq
    generalize hn : a.size = n at hr
    cases hr with
    | none => exact absurd (hn ▸ h2) (by decide)
    | one _ m h1' h2' hu =>
      refine wpS_bind (wpS_mono (wpS_forRange (I := fun _ c st'' => st'' = sst κ a' #[(0, n, 0)] 7 ∧ c = (none, ())) (Q := fun c st'' => st'' = sst κ a' #[(0, n, 0)] 7 ∧ c = (none, ())) ?_ (fun _ _ hh => hh) ⟨rfl, rfl⟩) ?_)
      · rintro x c st'' _ _ ⟨rfl, rfl⟩
        refine wpS_bind (wpS_get ?_)
        rw [if_pos (show (pendingOf (sst κ a' #[(0, n, 0)] 7)).size ≤ 1 from Nat.le_refl 1)]
        exact wpS_pure ⟨rfl, rfl⟩
      · rintro c st'' ⟨rfl, rfl⟩
        exact wpS_pure (h a' _ _ hp (by rw [hsz, hn]; exact hu))
    | two _ n1 n2 p h1' h2' h3' hu hv =>
      refine wpS_bind (wpS_mono (wpS_forRange (I := fun x c st'' => c = (none, ()) ∧ ((x = 0 ∧ st'' = sst κ a' #[(0, n1, p), (n1, n2, 0)] 7) ∨ (1 ≤ x ∧ ∃ b g, st'' = sst κ b #[(0, n1 + n2, p)] g ∧ b.Perm a ∧ Up r b 0 b.size)))
        (Q := fun c st'' => c = (none, ()) ∧ ∃ b g, st'' = sst κ b #[(0, n1 + n2, p)] g ∧ b.Perm a ∧ Up r b 0 b.size) ?_ ?_ ⟨rfl, .inl ⟨rfl, rfl⟩⟩) ?_)
      · rintro x c st'' _ _ ⟨rfl, hst⟩
        rcases hst with ⟨rfl, rfl⟩ | ⟨hx, b, g, rfl, hpb, hub⟩
        · refine wpS_bind (wpS_get ?_)
          rw [if_neg (show ¬ (pendingOf (sst κ a' #[(0, n1, p), (n1, n2, 0)] 7)).size ≤ 1 from (by decide : ¬ (2 ≤ 1)))]
          show wpS _ _ _ _ (do
            let r ← mergeAt' 0
            if (!r) = true then pure (ForInStep.done (some (), ())) else pure (ForInStep.yield (none, ()))) _ _
          refine wpS_bind (ts_mergeAt hA (hI.perm hp) (hsz.trans (hn.trans h3'.symm)) h1' h2' hu hv fun b g hpb hub => ?_)
          simp only [Bool.not_true, Bool.false_eq_true, if_false]
          exact wpS_pure ⟨rfl, .inr ⟨Nat.le_refl 1, b, g, rfl, hpb.trans hp, hub⟩⟩
        · refine wpS_bind (wpS_get ?_)
          rw [if_pos (show (pendingOf (sst κ b #[(0, n1 + n2, p)] g)).size ≤ 1 from Nat.le_refl 1)]
          exact wpS_pure ⟨rfl, b, g, rfl, hpb, hub⟩
      · rintro c st'' ⟨rfl, hst⟩
        rcases hst with ⟨hx, rfl⟩ | ⟨hx, b, g, rfl, hpb, hub⟩
        · lia
        · exact ⟨rfl, b, g, rfl, hpb, hub⟩
      · rintro c st'' ⟨rfl, b, g, rfl, hpb, hub⟩
        exact wpS_pure (h b _ _ hpb hub)
end
end Mine
end

-- FL
section
set_option maxRecDepth 100000
set_option exponentiation.threshold 3000
open PySem PySem.Float64
namespace Mine

theorem V_rep : ∀ (k q : Nat), q ≤ 2 ^ 53 → ∃ t, V t = q * 2 ^ k
  | 0, q, h => ⟨0 * 2 ^ 52 + q, V_at h (.inr rfl)⟩
  | k + 1, q, h => by
    by_cases hq : 2 ^ 52 ≤ q
    · exact ⟨(k + 1) * 2 ^ 52 + q, V_at h (.inl hq)⟩
    · obtain ⟨t, ht⟩ := V_rep k (2 * q) (by lia)
      exact ⟨t, by rw [ht, Nat.pow_succ]; ac_rfl⟩

theorem V_inj {t u : Nat} (h : V t = V u) : t = u := by
  rcases Nat.lt_trichotomy t u with q | q | q
  · exact absurd h (Nat.ne_of_lt (V_lt q))
  · exact q
  · exact absurd h.symm (Nat.ne_of_lt (V_lt q))

theorem dist_zero {a b : Nat} (h : dist a b = 0) : a = b := by unfold dist at h; lia
theorem dist_self (a : Nat) : dist a a = 0 := by unfold dist; lia

theorem right_exact {r : UInt64} {neg : Bool} {W D q k : Nat} (h : Right r neg W D) (hD : 0 < D) (hW : W = D * (q * 2 ^ k)) (hq : q ≤ 2 ^ 53) (hk : k ≤ 1100) :
    ∃ m e, decode r = .fin neg m e ∧ val r = sgn neg (q * 2 ^ k) := by
  obtain ⟨t, rfl, hle, hov, hn⟩ := h
  have hlt : t < infMag := by
    rcases Nat.lt_or_ge t infMag with h | h
    · exact h
    · exfalso
      have e : t = infMag := Nat.le_antisymm hle h
      have h2 := hov.mp e
      rw [hW] at h2
      have h4 : D * ((2 ^ 54 - 1) * 2 ^ 2045) ≤ D * (2 * (q * 2 ^ k)) := by
        calc _ ≤ 2 * (D * (q * 2 ^ k)) := h2
          _ = _ := by ac_rfl
      have h5 := Nat.le_of_mul_le_mul_left h4 hD
      have h6 : q * 2 ^ k ≤ 2 ^ 53 * 2 ^ 1100 := Nat.mul_le_mul hq (Nat.pow_le_pow_right (by decide) hk)
      have h7 : 2 * (2 ^ 53 * 2 ^ 1100) < (2 ^ 54 - 1) * 2 ^ 2045 := by decide +kernel
      exact absurd (Nat.le_trans h5 (Nat.mul_le_mul_left 2 h6)) (Nat.not_le_of_lt h7)
  obtain ⟨t', ht'⟩ := V_rep k q hq
  have h1 := (hn hlt t').1
  rw [ht', hW, dist_self] at h1
  have h2 := dist_zero (Nat.le_zero.mp h1)
  have h3 : V t = q * 2 ^ k := (Nat.eq_of_mul_eq_mul_left hD h2).symm
  obtain ⟨m, e, hd, _⟩ := decode_pack neg hlt
  exact ⟨m, e, hd, by rw [val_pack neg hlt, h3]⟩

/-- x is a double of value v/4 -/
def IsQ (x : UInt64) (v : Int) : Prop := ∃ a m e, decode x = .fin a m e ∧ val x = v * 2 ^ 1072

theorem IsQ.finite {x : UInt64} {v : Int} (h : IsQ x v) : isFinite x = true := by
  obtain ⟨a, m, e, hd, _⟩ := h
  unfold isFinite; rw [hd]

theorem sgn_abs (v : Int) : sgn (decide (v < 0)) v.natAbs = v := by
  unfold sgn
  by_cases h : v < 0
  · simp only [h, decide_true, if_true]; omega
  · simp only [h, decide_false]; simp; omega

theorem natAbs_q (v : Int) (k : Nat) : (v * 2 ^ k).natAbs = v.natAbs * 2 ^ k := by
  rw [Int.natAbs_mul, Int.natAbs_pow]; rfl

theorem sgn_q (neg : Bool) (q k : Nat) : sgn neg (q * 2 ^ k) = sgn neg q * 2 ^ k := by
  rw [sgn_mul]; simp

theorem pow_pos' (k : Nat) : (0 : Int) < 2 ^ k := by
  have := Nat.two_pow_pos k
  have e : ((2 ^ k : Nat) : Int) = (2 : Int) ^ k := by simp
  lia

theorem q_neg_iff (v : Int) (k : Nat) : (v * 2 ^ k < 0) ↔ v < 0 := by
  have h := pow_pos' k
  generalize (2 : Int) ^ k = K at *
  constructor
  · intro q
    rcases Int.lt_or_le v 0 with z | z
    · exact z
    · exact absurd q (Int.not_lt.mpr (Int.mul_nonneg z (Int.le_of_lt h)))
  · intro q; exact Int.mul_neg_of_neg_of_pos q h

theorem isQ_zero (s : Bool) : IsQ (zero s) 0 := by
  obtain ⟨m, e, hd, _⟩ := decode_pack s (t := 0) (by decide)
  refine ⟨s, m, e, hd, ?_⟩
  have := val_pack s (t := 0) (by decide)
  show val (pack s 0) = _
  rw [this, V_zero]; cases s <;> simp [sgn]

theorem isQ_right {r : UInt64} {neg : Bool} {W D : Nat} {v : Int} (h : Right r neg W D) (hD : 0 < D) (hW : W = D * (v.natAbs * 2 ^ 1072)) (hs : v = 0 ∨ neg = decide (v < 0)) (hv : v.natAbs ≤ 2 ^ 53) : IsQ r v := by
  obtain ⟨m, e, hd, hval⟩ := right_exact h hD hW hv (by decide)
  refine ⟨neg, m, e, hd, ?_⟩
  rw [hval, sgn_q]
  rcases hs with rfl | rfl
  · cases neg <;> simp [sgn]
  · rw [sgn_abs]

theorem IsQ.add {x y : UInt64} {v w : Int} (hx : IsQ x v) (hy : IsQ y w) (hb : (v + w).natAbs ≤ 2 ^ 53) : IsQ (add x y) (v + w) := by
  obtain ⟨a, m, e, hd, hv⟩ := hx
  obtain ⟨b, k, f, hd', hw⟩ := hy
  obtain ⟨h0, h1⟩ := add_right hd hd'
  have es : val x + val y = (v + w) * 2 ^ 1072 := by rw [hv, hw, Int.add_mul]
  rw [es] at h0 h1
  by_cases hz : v + w = 0
  · rw [h0 (by rw [hz, Int.zero_mul]), hz]; exact isQ_zero _
  · have hnz : (v + w) * 2 ^ 1072 ≠ 0 := Int.mul_ne_zero hz (Int.ne_of_gt (pow_pos' _))
    refine isQ_right (h1 hnz) (by decide) (by rw [natAbs_q, Nat.one_mul]) (.inr ?_) hb
    simp only [q_neg_iff]

theorem IsQ.neg {x : UInt64} {v : Int} (hx : IsQ x v) : IsQ (Float64.neg x) (-v) := by
  obtain ⟨a, m, e, hd, hv⟩ := hx
  exact ⟨!a, m, e, neg_decode hd, by rw [neg_val hd, hv, Int.neg_mul]⟩

theorem IsQ.sub {x y : UInt64} {v w : Int} (hx : IsQ x v) (hy : IsQ y w) (hb : (v - w).natAbs ≤ 2 ^ 53) : IsQ (sub x y) (v - w) := by
  have := IsQ.add hx hy.neg (by rwa [← Int.sub_eq_add_neg])
  rw [← Int.sub_eq_add_neg] at this
  with_unfolding_all exact this

theorem sign_of_val {x : UInt64} {a : Bool} {m : Nat} {e : Int} (hd : decode x = .fin a m e) (h : val x ≠ 0) : a = decide (val x < 0) := by
  have hv := val_eq hd
  have hA := val_natAbs hd
  generalize hM : m * 2 ^ (e + 1074).toNat = M at *
  rw [hv] at h ⊢
  unfold sgn at h ⊢
  cases a
  · simp
  · simp at h ⊢; lia

theorem mul_sign (v w : Int) (hv : v ≠ 0) (hw : w ≠ 0) : (decide (v < 0) != decide (w < 0)) = decide (v * w < 0) := by
  rcases Int.lt_or_gt_of_ne hv with h | h <;> rcases Int.lt_or_gt_of_ne hw with k | k
  · have := Int.mul_pos_of_neg_of_neg h k
    simp [h, k, show ¬ v * w < 0 by lia]
  · have := Int.mul_neg_of_neg_of_pos h k
    simp [h, show ¬ w < 0 by lia, this]
  · have := Int.mul_neg_of_pos_of_neg h k
    simp [k, show ¬ v < 0 by lia, this]
  · have := Int.mul_pos h k
    simp [show ¬ v < 0 by lia, show ¬ w < 0 by lia, show ¬ v * w < 0 by lia]

theorem IsQ.mul {x y : UInt64} {v w u : Int} (hx : IsQ x v) (hy : IsQ y w) (hu : v * w = 4 * u) (hb : u.natAbs ≤ 2 ^ 53) : IsQ (mul x y) u := by
  obtain ⟨a, m, e, hd, hv⟩ := hx
  obtain ⟨b, k, f, hd', hw⟩ := hy
  have h := mul_right hd hd'
  refine isQ_right h (Nat.two_pow_pos _) ?_ ?_ hb
  · rw [hv, hw, natAbs_q, natAbs_q]
    have e1 : v.natAbs * w.natAbs = 4 * u.natAbs := by rw [← Int.natAbs_mul, hu, Int.natAbs_mul]; rfl
    calc v.natAbs * 2 ^ 1072 * (w.natAbs * 2 ^ 1072) = (v.natAbs * w.natAbs) * (2 ^ 1072 * 2 ^ 1072) := by ac_rfl
      _ = u.natAbs * (4 * (2 ^ 1072 * 2 ^ 1072)) := by rw [e1]; ac_rfl
      _ = u.natAbs * (2 ^ 1074 * 2 ^ 1072) := by congr 1
      _ = _ := by ac_rfl
  · by_cases hu0 : u = 0
    · exact .inl hu0
    · right
      have hvw : v * w ≠ 0 := by rw [hu]; lia
      have hv0 : v ≠ 0 := fun q => hvw (by rw [q, Int.zero_mul])
      have hw0 : w ≠ 0 := fun q => hvw (by rw [q, Int.mul_zero])
      have ea := sign_of_val hd (by rw [hv]; exact Int.mul_ne_zero hv0 (Int.ne_of_gt (pow_pos' _)))
      have eb := sign_of_val hd' (by rw [hw]; exact Int.mul_ne_zero hw0 (Int.ne_of_gt (pow_pos' _)))
      rw [ea, eb, hv, hw]
      simp only [q_neg_iff]
      rw [mul_sign v w hv0 hw0, hu]
      by_cases z : u < 0
      · simp [z, show 4 * u < 0 by lia]
      · simp [z, show ¬ 4 * u < 0 by lia]

/-- the rest of an exact product is nought -/
theorem IsQ.fma_rest {x y z : UInt64} {v w u : Int} (hx : IsQ x v) (hy : IsQ y w) (hz : IsQ z u) (hu : v * w = 4 * u) : IsQ (fma x y (Float64.neg z)) 0 := by
  obtain ⟨a, m, e, hd, hv⟩ := hx
  obtain ⟨b, k, f, hd', hw⟩ := hy
  obtain ⟨c, n, g, hd3, hz3⟩ := hz.neg
  unfold fma
  rw [hd, hd', hd3]
  dsimp only
  have he := decode_ge hd
  have hf := decode_ge hd'
  have hg := decode_ge hd3
  have hp : (sgn (a != b) (m * k * 2 ^ ((e + f) - min (e + f) g).toNat) + sgn c (n * 2 ^ (g - min (e + f) g).toNat)) * ((2 ^ (min (e + f) g + 2148).toNat : Nat) : Int) = 0 := by
    rw [Int.add_mul, ← sgn_mul, ← sgn_mul, Nat.mul_assoc (m * k), ← Nat.pow_add, Nat.mul_assoc n, ← Nat.pow_add]
    have he0 : 0 ≤ e + 1074 := by omega
    have hf0 : 0 ≤ f + 1074 := by omega
    have hg0 : 0 ≤ g + 1074 := by omega
    have hm : 0 ≤ min (e + f) g + 2148 := by
      have h : -2148 ≤ min (e + f) g := Int.le_min.mpr ⟨by omega, by omega⟩
      clear hd hd' hd3 hv hw hz3 he hf hg he0 hf0 hg0; revert h; generalize min (e + f) g = q; intro h; omega
    have e1 : ((e + f) - min (e + f) g).toNat + (min (e + f) g + 2148).toNat = (e + 1074).toNat + (f + 1074).toNat := by
      rw [← Int.toNat_add (Int.sub_nonneg_of_le (Int.min_le_left _ _)) hm, ← Int.toNat_add he0 hf0]
      congr 1; generalize min (e + f) g = q; clear hd hd' hd3 hv hw hz3 he hf hg he0 hf0 hg0 hm; omega
    have e2 : (g - min (e + f) g).toNat + (min (e + f) g + 2148).toNat = (g + 1074).toNat + 1074 := by
      rw [← Int.toNat_add (Int.sub_nonneg_of_le (Int.min_le_right _ _)) hm, show (g + 1074).toNat + 1074 = (g + 1074 + 1074).toNat from (Int.toNat_add (b := 1074) hg0 (by decide)).symm]
      congr 1; generalize min (e + f) g = q; clear hd hd' hd3 hv hw hz3 he hf hg he0 hf0 hg0 hm; omega
    rw [e1, e2, Nat.pow_add, Nat.pow_add]
    have s1 : sgn (a != b) (m * k * (2 ^ (e + 1074).toNat * 2 ^ (f + 1074).toNat)) = val x * val y := by
      rw [val_eq hd, val_eq hd']
      have : m * k * (2 ^ (e + 1074).toNat * 2 ^ (f + 1074).toNat) = (m * 2 ^ (e + 1074).toNat) * (k * 2 ^ (f + 1074).toNat) := by ac_rfl
      rw [this]
      generalize m * 2 ^ (e + 1074).toNat = P
      generalize k * 2 ^ (f + 1074).toNat = R
      cases a <;> cases b <;> simp [sgn, Int.neg_mul, Int.mul_neg, Int.neg_neg]
    have s2 : sgn c (n * (2 ^ (g + 1074).toNat * 2 ^ 1074)) = val (Float64.neg z) * 2 ^ 1074 := by
      rw [val_eq hd3, ← Nat.mul_assoc, sgn_q]
    rw [s1, s2, hv, hw, hz3]
    have e3 : v * 2 ^ 1072 * (w * 2 ^ 1072) = (v * w) * (2 ^ 1072 * 2 ^ 1072) := by
      generalize (2 : Int) ^ 1072 = K
      rw [Int.mul_assoc, Int.mul_assoc, ← Int.mul_assoc K w K, Int.mul_comm K w, Int.mul_assoc w K K]
    have e4 : (2 : Int) ^ 1074 = 4 * 2 ^ 1072 := by rw [show (1074 : Nat) = 2 + 1072 from rfl, Int.pow_add]; rfl
    rw [e3, hu, e4]
    generalize (2 : Int) ^ 1072 = K
    have : 4 * u * (K * K) + -u * K * (4 * K) = 0 := by
      have q1 : -u * K * (4 * K) = -(4 * u * (K * K)) := by
        rw [Int.neg_mul, Int.neg_mul]
        congr 1
        rw [Int.mul_comm 4 K, ← Int.mul_assoc, Int.mul_comm (u * K * K) 4, Int.mul_assoc u K K, Int.mul_assoc 4 u]
      rw [q1]; exact Int.add_right_neg _
    exact this
  have hpos : (0 : Int) < ((2 ^ (min (e + f) g + 2148).toNat : Nat) : Int) := Int.ofNat_lt.mpr (Nat.two_pow_pos _)
  have h0 : sgn (a != b) (m * k * 2 ^ ((e + f) - min (e + f) g).toNat) + sgn c (n * 2 ^ (g - min (e + f) g).toNat) = 0 := by
    rcases Int.mul_eq_zero.mp hp with q | q
    · exact q
    · exact absurd q (Int.ne_of_gt hpos)
  unfold align
  dsimp only
  rw [h0]
  exact isQ_zero _

theorem IsQ.sqrt {x : UInt64} {n : Nat} (hx : IsQ x ((n * n : Nat) : Int)) (hn : 0 < n) (hb : n ≤ 2 ^ 52) : IsQ (sqrt x) ((2 * n : Nat) : Int) := by
  obtain ⟨a, m, e, hd, hv⟩ := hx
  have hpos : val x ≠ 0 := by
    rw [hv]
    exact Int.mul_ne_zero (by have := Nat.mul_pos hn hn; lia) (Int.ne_of_gt (pow_pos' _))
  have ha : a = false := by
    rw [sign_of_val hd hpos, hv]
    simp only [q_neg_iff]
    have := Int.natCast_nonneg (n * n)
    exact decide_eq_false (by lia)
  subst ha
  have hm : m ≠ 0 := by
    rintro rfl
    apply hpos
    rw [val_eq hd]; simp [sgn]
  obtain ⟨t, hs, hlt, hup, hdn⟩ := sqrt_right hd hm
  obtain ⟨t₀, ht₀⟩ := V_rep 1073 n (by lia)
  have hR : (val x).natAbs * 2 ^ 1074 = V t₀ * V t₀ := by
    rw [hv, natAbs_q, ht₀]
    have e1 : ((n * n : Nat) : Int).natAbs = n * n := Int.natAbs_natCast _
    rw [e1]
    calc n * n * 2 ^ 1072 * 2 ^ 1074 = n * n * (2 ^ 1072 * 2 ^ 1074) := by ac_rfl
      _ = n * n * (2 ^ 1073 * 2 ^ 1073) := by congr 1
      _ = _ := by ac_rfl
  rw [hR] at hup hdn
  have et : t = t₀ := by
    rcases Nat.lt_trichotomy t t₀ with q | q | q
    · have h1 := hup t₀ q
      have h2 := V_lt q
      exfalso
      have h3 : (V t + V t₀) * (V t + V t₀) < (V t₀ + V t₀) * (V t₀ + V t₀) := Nat.mul_lt_mul'' (by lia) (by lia)
      have h4 : (V t₀ + V t₀) * (V t₀ + V t₀) = 4 * (V t₀ * V t₀) := by
        rw [Nat.add_mul, Nat.mul_add]; lia
      lia
    · exact q
    · have h1 := hdn t₀ q
      have h2 := V_lt q
      exfalso
      have h3 : (V t₀ + V t₀) * (V t₀ + V t₀) < (V t + V t₀) * (V t + V t₀) := Nat.mul_lt_mul'' (by lia) (by lia)
      have h4 : (V t₀ + V t₀) * (V t₀ + V t₀) = 4 * (V t₀ * V t₀) := by
        rw [Nat.add_mul, Nat.mul_add]; lia
      lia
  subst et
  obtain ⟨m', e', hd', _⟩ := decode_pack false hlt
  refine ⟨false, m', e', hs ▸ hd', ?_⟩
  rw [hs, val_pack false hlt, ht₀]
  have : sgn false (n * 2 ^ 1073) = ((n * 2 ^ 1073 : Nat) : Int) := by simp [sgn]
  rw [this, show (1073 : Nat) = 1 + 1072 from rfl, Nat.pow_add]
  simp only [Nat.pow_one, Int.natCast_mul, Int.natCast_pow]
  rw [← Int.mul_assoc]
  congr 1
  exact Int.mul_comm _ _

theorem isQ_isZero {x : UInt64} {v : Int} (hx : IsQ x v) : isZero x = decide (v = 0) := by
  obtain ⟨a, m, e, hd, hv⟩ := hx
  have hA := val_natAbs hd
  rw [hv, natAbs_q] at hA
  unfold isZero
  rw [hd]
  by_cases hm : m = 0
  · subst hm
    rw [Nat.zero_mul] at hA
    have : v.natAbs = 0 := by
      rcases Nat.mul_eq_zero.mp hA with q | q
      · exact q
      · exact absurd q (Nat.ne_of_gt (Nat.two_pow_pos _))
    simp; lia
  · have : v ≠ 0 := by
      rintro rfl
      rw [show (0 : Int).natAbs = 0 from rfl, Nat.zero_mul] at hA
      rcases Nat.mul_eq_zero.mp hA.symm with q | q
      · exact hm q
      · exact absurd q (Nat.ne_of_gt (Nat.two_pow_pos _))
    simp only [this, decide_false]
    match m, hm with
    | k + 1, _ => rfl
end Mine
end

-- FL2
section
set_option maxRecDepth 100000
set_option exponentiation.threshold 3000
open PySem PySem.Float64 PySem.Builtin.Math
namespace Mine

theorem isQ_ofInt {i : Int} (h : i.natAbs ≤ 2 ^ 50) : IsQ (ofInt i) (4 * i) := by
  refine isQ_right (ofInt_right i) (by decide) ?_ ?_ (by rw [Int.natAbs_mul]; show 4 * _ ≤ _; lia)
  · rw [Nat.one_mul, Int.natAbs_mul]
    show _ = 4 * i.natAbs * 2 ^ 1072
    rw [Nat.mul_comm 4, Nat.mul_assoc]
  · by_cases h0 : i = 0
    · left; lia
    · right
      congr 1
      exact propext ⟨fun q => by lia, fun q => by lia⟩

def Sm (v : Int) : Prop := v.natAbs ≤ 2 ^ 50

theorem dlSum_q {a b : UInt64} {p q : Int} (ha : IsQ a p) (hb : IsQ b q) (h1 : Sm p) (h2 : Sm q) : IsQ (dlSum a b).1 (p + q) ∧ IsQ (dlSum a b).2 0 := by
  unfold Sm at *
  have hs := Int.natAbs_add_le p q
  have ec : p + q - p = q := by rw [Int.add_comm, Int.add_sub_cancel]
  have hx : IsQ (add a b) (p + q) := ha.add hb (by clear ha hb; generalize (p + q).natAbs = k at *; lia)
  have hz : IsQ (sub (add a b) a) q := by
    have := hx.sub ha (by rw [ec]; clear ha hb hx hs; omega)
    rwa [ec] at this
  refine ⟨hx, ?_⟩
  have h3 : IsQ (sub (add a b) (sub (add a b) a)) p := by
    have := hx.sub hz (by rw [Int.add_sub_cancel]; clear ha hb hx hs hz; omega)
    rwa [Int.add_sub_cancel] at this
  have h4 : IsQ (sub a (sub (add a b) (sub (add a b) a))) 0 := by
    have := ha.sub h3 (by rw [Int.sub_self]; decide)
    rwa [Int.sub_self] at this
  have h5 : IsQ (sub b (sub (add a b) a)) 0 := by
    have := hb.sub hz (by rw [Int.sub_self]; decide)
    rwa [Int.sub_self] at this
  exact h4.add h5 (by decide)

theorem dlMul_q {x y : UInt64} {v w u : Int} (hx : IsQ x v) (hy : IsQ y w) (hu : v * w = 4 * u) (hb : Sm u) : IsQ (dlMul x y).1 u ∧ IsQ (dlMul x y).2 0 := by
  unfold Sm at *
  have hz := hx.mul hy hu (by lia)
  exact ⟨hz, IsQ.fma_rest hx hy hz hu⟩

/-- a triple of doubles that stands for v/4, exactly -/
structure IsT (t : UInt64 × UInt64 × UInt64) (v : Int) : Prop where
  hi : IsQ t.1 v
  lo : IsQ t.2.1 0
  tiny : IsQ t.2.2 0

theorem tlFma_q {x y : UInt64} {t : UInt64 × UInt64 × UInt64} {v w u A : Int} (hx : IsQ x v) (hy : IsQ y w) (ht : IsT t A) (hu : v * w = 4 * u) (hb : Sm u) (hA : Sm A) : IsT (tlFma x y t) (A + u) := by
  have pr := dlMul_q hx hy hu hb
  have sm := dlSum_q ht.hi pr.1 hA hb
  have r1 := dlSum_q ht.lo pr.2 (by unfold Sm; decide) (by unfold Sm; decide)
  have r2 := dlSum_q r1.1 sm.2 (by unfold Sm; decide) (by unfold Sm; decide)
  exact ⟨sm.1, r2.1, (ht.tiny.add r1.2 (by decide)).add r2.2 (by decide)⟩

theorem tlToFloat_q {t : UInt64 × UInt64 × UInt64} {A : Int} (ht : IsT t A) (hA : Sm A) : IsQ (tlToFloat t) A := by
  have last := dlSum_q ht.lo ht.hi (by unfold Sm; decide) hA
  have h := (ht.tiny.add last.2 (by decide)).add last.1 (by unfold Sm at hA; lia)
  rwa [show (0 + 0 + (0 + A) : Int) = A by lia] at h

theorem isT_zero : IsT (zero false, zero false, zero false) 0 := ⟨isQ_zero _, isQ_zero _, isQ_zero _⟩

theorem right_scale {r : UInt64} {neg : Bool} {W D c : Nat} (hc : 0 < c) (h : Right r neg (c * W) (c * D)) : Right r neg W D := by
  obtain ⟨t, e, hle, hov, hn⟩ := h
  refine ⟨t, e, hle, ?_, fun hlt t' => ?_⟩
  · rw [hov]
    have e1 : c * D * ((2 ^ 54 - 1) * 2 ^ 2045) = c * (D * ((2 ^ 54 - 1) * 2 ^ 2045)) := by ac_rfl
    have e2 : 2 * (c * W) = c * (2 * W) := by ac_rfl
    rw [e1, e2]
    exact Nat.mul_le_mul_left_iff hc
  · have h := hn hlt t'
    rw [Nat.mul_assoc, Nat.mul_assoc, dist_mul, dist_mul] at h
    exact ⟨(Nat.mul_le_mul_left_iff hc).mp h.1, fun a b => h.2 a (congrArg (c * ·) b)⟩

theorem dist_mid {W x y z : Nat} (h1 : x < y) (h2 : y < z) (e : dist W x = dist W z) (c : dist W x ≤ dist W y) : False := by
  unfold dist at e c
  rcases Nat.le_total W x with h | h
  · have q := Nat.sub_lt_sub_right h (Nat.lt_trans h1 h2)
    rw [Nat.sub_eq_zero_of_le h, Nat.sub_eq_zero_of_le (Nat.le_trans h (Nat.le_of_lt (Nat.lt_trans h1 h2))), Nat.zero_add, Nat.zero_add] at e
    exact absurd e (Nat.ne_of_lt q)
  · rw [Nat.sub_eq_zero_of_le h, Nat.add_zero] at e c
    rcases Nat.le_total W y with k | k
    · rw [Nat.sub_eq_zero_of_le k, Nat.zero_add] at c
      rw [Nat.sub_eq_zero_of_le (Nat.le_trans k (Nat.le_of_lt h2)), Nat.zero_add] at e
      exact absurd c (Nat.not_le_of_lt (e ▸ Nat.sub_lt_sub_right k h2))
    · rw [Nat.sub_eq_zero_of_le k, Nat.add_zero] at c
      exact absurd c (Nat.not_le_of_lt (Nat.sub_lt_sub_left (Nat.lt_of_lt_of_le h1 k) h1))
theorem dist_twice {D W t u : Nat} (hD : 0 < D) (a : V u ≠ V t → dist W (D * V t) = dist W (D * V u) → t % 2 = 0) (b : V t ≠ V u → dist W (D * V u) = dist W (D * V t) → u % 2 = 0)
    (heq : dist W (D * V t) = dist W (D * V u)) (c : dist W (D * V t) ≤ dist W (D * V (t + 1))) (q : t < u) : False := by
  have hv := V_lt q
  have p1 := a (Nat.ne_of_gt hv) heq
  have p2 := b (Nat.ne_of_lt hv) heq.symm
  have q2 : t + 1 < u := by clear a b heq c hv; omega
  exact dist_mid (Nat.mul_lt_mul_of_pos_left (V_succ t) hD) (Nat.mul_lt_mul_of_pos_left (V_lt q2) hD) heq c
theorem right_unique {r r' : UInt64} {n₁ n₂ : Bool} {W D : Nat} (hD : 0 < D) (h : Right r n₁ W D) (h' : Right r' n₂ W D) : ∃ t, r = pack n₁ t ∧ r' = pack n₂ t ∧ t ≤ infMag := by
  obtain ⟨t, e, hle, hov, hn⟩ := h
  obtain ⟨u, e', hle', hov', hn'⟩ := h'
  refine ⟨t, e, ?_, hle⟩
  have : t = u := by
    rcases Nat.lt_or_ge t infMag with ht | ht
    · have hu : u < infMag := by
        rcases Nat.lt_or_ge u infMag with q | q
        · exact q
        · exact absurd (hov.mpr (hov'.mp (Nat.le_antisymm hle' q))) (Nat.ne_of_lt ht)
      have a := (hn ht u)
      have b := (hn' hu t)
      have heq : dist W (D * V t) = dist W (D * V u) := Nat.le_antisymm a.1 b.1
      rcases Nat.lt_trichotomy t u with q | q | q
      · exact (dist_twice hD a.2 b.2 heq (hn ht (t + 1)).1 q).elim
      · exact q
      · exact (dist_twice hD b.2 a.2 heq.symm (hn' hu (u + 1)).1 q).elim
    · have e1 := Nat.le_antisymm hle ht
      rw [e1, hov'.mpr (hov.mp e1)]
  rw [this]; exact e'

theorem right_div {x y : UInt64} {W : Int} {N : Nat} (hx : IsQ x (2 * W)) (hy : IsQ y ((2 * N : Nat) : Int)) (hN : 0 < N) :
    ∃ s, (W = 0 ∨ s = decide (W < 0)) ∧ Right (div x y) s (W.natAbs * 2 ^ 1074) N := by
  obtain ⟨a, m, e, hd, hv⟩ := hx
  obtain ⟨b, k, f, hd', hw⟩ := hy
  have hy0 : val y ≠ 0 := by rw [hw]; exact Int.mul_ne_zero (by lia) (Int.ne_of_gt (pow_pos' _))
  have hk : k ≠ 0 := by
    rintro rfl
    apply hy0; rw [val_eq hd']; simp [sgn]
  refine ⟨a != b, ?_, right_scale (c := 2 * 2 ^ 1072) (Nat.mul_pos (by decide) (Nat.two_pow_pos _)) ?_⟩
  · by_cases h0 : W = 0
    · exact .inl h0
    · right
      rw [sign_of_val hd (by rw [hv]; exact Int.mul_ne_zero (by lia) (Int.ne_of_gt (pow_pos' _))), sign_of_val hd' hy0, hv, hw]
      simp only [q_neg_iff]
      rw [show decide (((2 * N : Nat) : Int) < 0) = false from decide_eq_false (by lia)]
      by_cases z : W < 0
      · simp [z, show 2 * W < 0 by lia]
      · simp [z, show ¬ 2 * W < 0 by lia]
  · have h := div_right hd hd' hk
    rw [hv, hw, natAbs_q, natAbs_q, Int.natAbs_mul, Int.natAbs_natCast] at h
    have e1 : (2 : Int).natAbs * W.natAbs * 2 ^ 1072 * 2 ^ 1074 = 2 * 2 ^ 1072 * (W.natAbs * 2 ^ 1074) := by
      show 2 * W.natAbs * 2 ^ 1072 * 2 ^ 1074 = _
      generalize (2 : Nat) ^ 1072 = K
      generalize (2 : Nat) ^ 1074 = J
      ac_rfl
    have e2 : 2 * N * 2 ^ 1072 = 2 * 2 ^ 1072 * N := by
      generalize (2 : Nat) ^ 1072 = K
      ac_rfl
    rw [e1, e2] at h
    exact h

theorem near_div (X : Nat) {N : Nat} (hN : 0 < N) : dist X (N * (X / N)) ≤ N := by
  unfold dist
  have hm : X - N * (X / N) = X % N := (Nat.mod_eq_sub X N).symm
  rw [Nat.sub_eq_zero_of_le (Nat.mul_div_le X N), Nat.add_zero, hm]
  exact Nat.le_of_lt (Nat.mod_lt X hN)

theorem right_near {r : UInt64} {s : Bool} {W N : Nat} (hN : 0 < N) (hW : W ≤ N) (h : Right r s (W * 2 ^ 1074) N) :
    ∃ t, r = pack s t ∧ t < infMag ∧ dist (W * 2 ^ 1074) (N * V t) ≤ N * 2 ^ 1022 ∧ (W = 0 → V t = 0) := by
  obtain ⟨t, e, hle, hov, hn⟩ := h
  have hlt : t < infMag := by
    rcases Nat.lt_or_ge t infMag with q | q
    · exact q
    · exfalso
      have h2 := hov.mp (by lia)
      have h3 : 2 * (W * 2 ^ 1074) ≤ N * (2 * 2 ^ 1074) := by
        calc 2 * (W * 2 ^ 1074) = W * (2 * 2 ^ 1074) := by ac_rfl
          _ ≤ _ := Nat.mul_le_mul_right _ hW
      have h4 := Nat.le_of_mul_le_mul_left (Nat.le_trans h2 h3) hN
      exact absurd h4 (by decide +kernel)
  refine ⟨t, e, hlt, ?_, fun h0 => ?_⟩
  · obtain ⟨t', ht'⟩ := V_rep 1022 (W * 2 ^ 52 / N) (by
      have : W * 2 ^ 52 / N ≤ 2 ^ 52 := Nat.div_le_of_le_mul (Nat.mul_le_mul_right _ hW)
      lia)
    refine Nat.le_trans (hn hlt t').1 ?_
    rw [ht']
    have e1 : W * 2 ^ 1074 = W * 2 ^ 52 * 2 ^ 1022 := by rw [Nat.mul_assoc]
    have e2 : N * (W * 2 ^ 52 / N * 2 ^ 1022) = N * (W * 2 ^ 52 / N) * 2 ^ 1022 := by ac_rfl
    rw [e1, e2, Nat.mul_comm _ (2 ^ 1022), Nat.mul_comm _ (2 ^ 1022), dist_mul, Nat.mul_comm N (2 ^ 1022)]
    refine Nat.mul_le_mul_left _ ?_
    exact near_div (W * 2 ^ 52) hN
  · subst h0
    have := (hn hlt 0).1
    rw [V_zero, Nat.mul_zero, Nat.zero_mul, dist_self] at this
    have := dist_zero (Nat.le_zero.mp this)
    rcases Nat.mul_eq_zero.mp this.symm with q | q
    · lia
    · exact q

theorem ratio_val {x : UInt64} {s : Bool} {m : Nat} {e : Int} (hd : decode x = .fin s m e) : 0 < (ratio m e).2 ∧ (ratio m e).1 * 2 ^ 1074 = m * 2 ^ (e + 1074).toNat * (ratio m e).2 := by
  have he := decode_ge hd
  have h1 := shift_one m e 1074 he
  have h2 := shift_pos m 1 e (by decide)
  have h3 : ratio m e = ((shift m 1 e).1 / (shift m 1 e).1.gcd (shift m 1 e).2, (shift m 1 e).2 / (shift m 1 e).1.gcd (shift m 1 e).2) := rfl
  rw [h3]
  generalize (shift m 1 e).1 = n at *
  generalize (shift m 1 e).2 = d at *
  generalize m * 2 ^ (e + 1074).toNat = M at *
  generalize hg : n.gcd d = g at *
  have hgp : 0 < g := by rw [← hg]; exact Nat.gcd_pos_of_pos_right _ h2
  obtain ⟨n', hn'⟩ : g ∣ n := hg ▸ Nat.gcd_dvd_left n d
  obtain ⟨d', hd'⟩ : g ∣ d := hg ▸ Nat.gcd_dvd_right n d
  subst hn' hd'
  dsimp only
  rw [Nat.mul_div_cancel_left _ hgp, Nat.mul_div_cancel_left _ hgp]
  refine ⟨Nat.pos_of_mul_pos_left h2, ?_⟩
  refine Nat.eq_of_mul_eq_mul_left hgp ?_
  calc g * (n' * 2 ^ 1074) = g * n' * 2 ^ 1074 := by ac_rfl
    _ = M * (g * d') := h1
    _ = _ := by ac_rfl

theorem fdiv_is {a b q : Int} (hb : 0 < b) (h1 : b * q ≤ a) (h2 : a < b * q + b) : Int.fdiv a b = q := by
  rw [Int.fdiv_eq_ediv_of_nonneg _ (by lia)]
  have : a / b = q := by
    have e : a = b * q + (a - b * q) := by lia
    rw [e, Int.add_comm, Int.add_mul_ediv_left _ _ (by lia), Int.ediv_eq_zero_of_lt (by lia) (by lia)]
    lia
  exact this

theorem told_floor {x : UInt64} {s : Bool} {W : Int} {N : Nat} (hN : 0 < N) (hNb : N ≤ 2 ^ 40) (hW : W.natAbs ≤ N) (hs : W = 0 ∨ s = decide (W < 0)) (h : Right x s (W.natAbs * 2 ^ 1074) N) :
    ∃ m e, decode x = .fin s m e ∧ 0 < (ratio m e).2 ∧ Int.fdiv (2 * sgn s (ratio m e).1 * N + (ratio m e).2) (2 * (ratio m e).2) = W := by
  obtain ⟨t, rfl, hlt, hdist, h0⟩ := right_near hN hW h
  obtain ⟨m, e, hd, hv⟩ := decode_pack s hlt
  obtain ⟨hp, hr⟩ := ratio_val hd
  refine ⟨m, e, hd, hp, ?_⟩
  rw [hv] at hr
  generalize (ratio m e).1 = n at *
  generalize (ratio m e).2 = d at *
  have hb : N * 2 ^ 1022 < 2 ^ 1073 := by
    calc N * 2 ^ 1022 ≤ 2 ^ 40 * 2 ^ 1022 := Nat.mul_le_mul_right _ hNb
      _ < 2 ^ 1073 := by decide +kernel
  have hWs : sgn s W.natAbs = W := by
    rcases hs with rfl | rfl
    · cases s <;> rfl
    · exact sgn_abs W
  have hK : (2 : Nat) ^ 1074 = 2 * 2 ^ 1073 := rfl
  rw [hK] at hr hdist
  generalize hKK : (2 : Nat) ^ 1073 = K at *
  have hKp : 0 < K := by rw [← hKK]; exact Nat.two_pow_pos _
  -- |N * V - |W| * 2K| < K
  have hd1 : dist (W.natAbs * (2 * K)) (N * V t) < K := Nat.lt_of_le_of_lt hdist hb
  generalize V t = v at *
  generalize hA : W.natAbs = A at *
  clear hdist hb hlt hd hv h0 h hKK hK
  unfold dist at hd1
  have hdp : (0 : Int) < d := by lia
  have hr' : (n : Int) * (2 * K) = v * d := by exact_mod_cast hr
  -- to the integers
  have key : ∀ σ : Int, (σ = 1 ∨ σ = -1) → W = σ * A → sgn s n = σ * n → Int.fdiv (2 * sgn s n * N + d) (2 * d) = W := by
    intro σ hσ hWσ hnσ
    rw [hnσ]
    refine fdiv_is (by lia) ?_ ?_
    all_goals (
      have hd2 : (N : Int) * v - A * (2 * K) < K ∧ (A : Int) * (2 * K) - N * v < K := by
        have e1 : ((A * (2 * K) : Nat) : Int) = (A : Int) * (2 * K) := by simp
        have e2 : ((N * v : Nat) : Int) = (N : Int) * v := by simp
        generalize A * (2 * K) = P at *
        generalize N * v = R at *
        rw [← e1, ← e2]
        lia
      have hKi : (0 : Int) < 2 * K := by lia)
    · -- 2 d W ≤ 2 σ n N + d ; times 2K
      have g : (2 * (d : Int) * W) * (2 * K) ≤ (2 * (σ * n) * N + d) * (2 * K) := by
        have e1 : (2 * (σ * n) * N + d) * (2 * K) = d * (2 * (σ * (N * v)) + 2 * K) := by
          have : (2 * (σ * n) * N + d) * (2 * (K : Int)) = 2 * σ * N * (n * (2 * K)) + d * (2 * K) := by
            rw [Int.add_mul]; congr 1; ac_rfl
          rw [this, hr', Int.mul_add]; congr 1; ac_rfl
        have e2 : (2 * (d : Int) * W) * (2 * K) = d * (2 * (σ * (A * (2 * K)))) := by
          rw [hWσ]; ac_rfl
        rw [e1, e2]
        refine Int.mul_le_mul_of_nonneg_left ?_ (by lia)
        generalize (N : Int) * v = R at *
        generalize (A : Int) * (2 * K) = P at *
        rcases hσ with rfl | rfl <;> lia
      exact Int.le_of_mul_le_mul_right g hKi
    · have g : (2 * (σ * n) * N + d) * (2 * K) < (2 * (d : Int) * W + 2 * d) * (2 * K) := by
        have e1 : (2 * (σ * n) * N + d) * (2 * K) = d * (2 * (σ * (N * v)) + 2 * K) := by
          have : (2 * (σ * n) * N + d) * (2 * (K : Int)) = 2 * σ * N * (n * (2 * K)) + d * (2 * K) := by
            rw [Int.add_mul]; congr 1; ac_rfl
          rw [this, hr', Int.mul_add]; congr 1; ac_rfl
        have e2 : (2 * (d : Int) * W + 2 * d) * (2 * K) = d * (2 * (σ * (A * (2 * K))) + 2 * (2 * K)) := by
          rw [hWσ, Int.add_mul, Int.mul_add]; congr 1 <;> ac_rfl
        rw [e1, e2]
        refine Int.mul_lt_mul_of_pos_left ?_ hdp
        generalize (N : Int) * v = R at *
        generalize (A : Int) * (2 * K) = P at *
        rcases hσ with rfl | rfl <;> lia
      exact Int.lt_of_mul_lt_mul_right g (by lia)
  cases s
  · exact key 1 (.inl rfl) (by rw [← hWs]; simp [sgn]) (by simp [sgn])
  · exact key (-1) (.inr rfl) (by rw [← hWs]; simp [sgn]) (by simp [sgn])

theorem right_cmp {x y : UInt64} {s₁ s₂ : Bool} {W : Int} {N : Nat} (hN : 0 < N) (hW : W.natAbs ≤ N) (h1 : W = 0 ∨ s₁ = decide (W < 0)) (h2 : W = 0 ∨ s₂ = decide (W < 0))
    (hx : Right x s₁ (W.natAbs * 2 ^ 1074) N) (hy : Right y s₂ (W.natAbs * 2 ^ 1074) N) : cmp x y = some .eq := by
  obtain ⟨t, rfl, hlt, _, h0⟩ := right_near hN hW hx
  obtain ⟨u, e1, e2, _⟩ := right_unique hN hx hy
  obtain ⟨u', rfl, hlt', _, h0'⟩ := right_near hN hW hy
  obtain ⟨m, e, hd, hv⟩ := decode_pack s₁ hlt
  obtain ⟨m', e', hd', hv'⟩ := decode_pack s₂ hlt'
  have hbase : infMag < 2 ^ 63 := by decide
  have q1 : t = u := by
    have := congrArg UInt64.toNat e1
    rw [pack_toNat _ (by lia), pack_toNat _ (by lia)] at this
    lia
  have q2 : u' = u := by
    have := congrArg UInt64.toNat e2
    rw [pack_toNat _ (by lia), pack_toNat _ (by lia)] at this
    lia
  subst q1 q2
  rw [cmp_right hd hd', val_pack _ hlt, val_pack _ hlt]
  have : sgn s₁ (V u') = sgn s₂ (V u') := by
    by_cases hz : W = 0
    · rw [h0 (by lia)]; cases s₁ <;> cases s₂ <;> rfl
    · rw [h1.resolve_left hz, h2.resolve_left hz]
  rw [this]; simp

theorem right_ofFrac (W : Int) {N : Nat} (hN : 0 < N) : Right (ofFrac (decide (W < 0) != decide ((N : Int) < 0)) W.natAbs N) (decide (W < 0)) (W.natAbs * 2 ^ 1074) N := by
  have : (decide (W < 0) != decide ((N : Int) < 0)) = decide (W < 0) := by
    rw [show decide ((N : Int) < 0) = false from decide_eq_false (by lia)]; cases decide (W < 0) <;> rfl
  rw [this]
  exact ofFrac_right hN rfl hN
end Mine
end

-- PM
section
namespace Mine
def sumN : Nat → (Nat → Int) → Int
  | 0, _ => 0
  | n + 1, f => sumN n f + f n
theorem sumN_congr {f g : Nat → Int} : ∀ n, (∀ j, j < n → f j = g j) → sumN n f = sumN n g
  | 0, _ => rfl
  | n + 1, h => by
    show sumN n f + f n = sumN n g + g n
    rw [sumN_congr n fun j hj => h j (by lia), h n (by lia)]
theorem sumN_add (f g : Nat → Int) : ∀ n, sumN n (fun j => f j + g j) = sumN n f + sumN n g
  | 0 => rfl
  | n + 1 => by
    show sumN n (fun j => f j + g j) + (f n + g n) = (sumN n f + f n) + (sumN n g + g n)
    rw [sumN_add f g n]; lia
theorem sumN_sub (f g : Nat → Int) : ∀ n, sumN n (fun j => f j - g j) = sumN n f - sumN n g
  | 0 => rfl
  | n + 1 => by
    show sumN n (fun j => f j - g j) + (f n - g n) = (sumN n f + f n) - (sumN n g + g n)
    rw [sumN_sub f g n]; lia
theorem sumN_mul (c : Int) (f : Nat → Int) : ∀ n, sumN n (fun j => c * f j) = c * sumN n f
  | 0 => by simp [sumN]
  | n + 1 => by
    show sumN n (fun j => c * f j) + c * f n = c * (sumN n f + f n)
    rw [sumN_mul c f n]; grind
theorem sumN_const (c : Int) : ∀ n : Nat, sumN n (fun _ => c) = n * c
  | 0 => by simp [sumN]
  | n + 1 => by
    show sumN n (fun _ => c) + c = ((n + 1 : Nat) : Int) * c
    rw [sumN_const c n]
    push_cast
    grind
theorem sumN_nonneg {f : Nat → Int} : ∀ n, (∀ j, j < n → 0 ≤ f j) → 0 ≤ sumN n f
  | 0, _ => Int.le_refl _
  | n + 1, h => Int.add_nonneg (sumN_nonneg n fun j hj => h j (by lia)) (h n (by lia))
theorem sumN_le {f g : Nat → Int} : ∀ n, (∀ j, j < n → f j ≤ g j) → sumN n f ≤ sumN n g
  | 0, _ => Int.le_refl _
  | n + 1, h => Int.add_le_add (sumN_le n fun j hj => h j (by lia)) (h n (by lia))
theorem sumN_single (c : Int) (k : Nat) : ∀ n, sumN n (fun j => if j = k then c else 0) = if k < n then c else 0
  | 0 => by simp [sumN]
  | n + 1 => by
    show sumN n (fun j => if j = k then c else 0) + (if n = k then c else 0) = _
    rw [sumN_single c k n]
    by_cases h1 : k < n
    · rw [if_pos h1, if_neg (by lia), if_pos (by lia)]; lia
    · by_cases h2 : n = k
      · rw [if_neg h1, if_pos h2, if_pos (by lia)]; lia
      · rw [if_neg h1, if_neg h2, if_neg (by lia)]; rfl
theorem sumN_list (f : Nat → Int) : ∀ n, sumN n f = ((List.range n).map f).sum
  | 0 => rfl
  | n + 1 => by
    rw [List.range_succ, List.map_append, List.sum_append, ← sumN_list f n]
    simp [sumN]
theorem perm_sum {l m : List Int} (h : l.Perm m) : l.sum = m.sum := by
  induction h with
  | nil => rfl
  | cons x _ ih => simp only [List.sum_cons, ih]
  | swap x y l => simp only [List.sum_cons]; lia
  | trans _ _ a b => exact a.trans b
/-- a sum over all pairs, by the places' order -/
theorem sum_dbl (F : Nat → Nat → Int) : ∀ n, sumN n (fun j => sumN n fun i => F i j) = sumN n (fun j => sumN j fun i => F i j + F j i) + sumN n fun j => F j j
  | 0 => rfl
  | n + 1 => by
    show sumN n (fun j => sumN n (fun i => F i j) + F n j) + (sumN n (fun i => F i n) + F n n) = (sumN n (fun j => sumN j fun i => F i j + F j i) + sumN n (fun i => F i n + F n i)) + (sumN n (fun j => F j j) + F n n)
    rw [sumN_add, sum_dbl F n, sumN_add]
    lia

theorem rise_ge' {l : List Nat} (h : l.Pairwise (· < ·)) : ∀ k (hk : k < l.length), k ≤ l[k] := by
  intro k
  induction k with
  | zero => intro _; exact Nat.zero_le _
  | succ k ih =>
    intro hk
    have a := ih (by lia)
    have b := List.pairwise_iff_getElem.mp h k (k + 1) (by lia) hk (by lia)
    lia
theorem rise_le' {l : List Nat} {n : Nat} (h : l.Pairwise (· < ·)) (hb : ∀ x ∈ l, x < n) : ∀ d k (hk : k < l.length), l.length = k + d + 1 → l[k] + d < n := by
  intro d
  induction d with
  | zero => intro k hk _; exact hb _ (List.getElem_mem hk)
  | succ d ih =>
    intro k hk e
    have a := ih (k + 1) (by lia) (by lia)
    have b := List.pairwise_iff_getElem.mp h k (k + 1) hk (by lia) (by lia)
    lia
/-- a rank: each number below n once -/
structure Perm (n : Nat) (ρ : Nat → Nat) : Prop where
  below : ∀ i, i < n → ρ i < n
  inj : ∀ i j, i < n → j < n → ρ i = ρ j → i = j
theorem Perm.range {n : Nat} {ρ : Nat → Nat} (P : Perm n ρ) : ((List.range n).map ρ).Perm (List.range n) := by
  have nd : ((List.range n).map ρ).Nodup := by
    rw [List.nodup_iff_pairwise_ne, List.pairwise_map]
    refine List.Pairwise.imp_of_mem ?_ List.nodup_range
    intro a b ha hb hab e
    exact hab (P.inj a b (List.mem_range.mp ha) (List.mem_range.mp hb) e)
  have pm := List.mergeSort_perm ((List.range n).map ρ) (fun a b => decide (a ≤ b))
  have hs : (((List.range n).map ρ).mergeSort fun a b => decide (a ≤ b)).Pairwise (fun a b => decide (a ≤ b) = true) :=
    List.pairwise_mergeSort (fun a b c h1 h2 => by simp at *; lia) (fun a b => by simp; lia) _
  have nd' := pm.nodup_iff.mpr nd
  generalize (((List.range n).map ρ).mergeSort fun a b => decide (a ≤ b)) = l at *
  have hl : l.length = n := by rw [pm.length_eq]; simp
  have st : l.Pairwise (· < ·) := by
    refine List.Pairwise.imp ?_ (hs.and (List.nodup_iff_pairwise_ne.mp nd'))
    intro a b ⟨h1, h2⟩
    simp at h1
    lia
  have hb : ∀ x ∈ l, x < n := fun x hx => by
    obtain ⟨i, hi, rfl⟩ := List.mem_map.mp (pm.mem_iff.mp hx)
    exact P.below i (List.mem_range.mp hi)
  have e : l = List.range n := by
    apply List.ext_getElem
    · simp [hl]
    · intro k h1 h2
      have a := rise_ge' st k h1
      have b := rise_le' st hb (n - 1 - k) k h1 (by lia)
      rw [List.getElem_range]
      lia
  exact e ▸ pm.symm
theorem Perm.sum {n : Nat} {ρ : Nat → Nat} (P : Perm n ρ) (g : Nat → Int) : sumN n (fun j => g (ρ j)) = sumN n g := by
  rw [sumN_list, sumN_list]
  have := perm_sum (P.range.map g)
  rwa [List.map_map] at this
/-- how many lie below a number: itself -/
theorem count_below : ∀ (n v : Nat), v ≤ n → sumN n (fun i => if i < v then 1 else 0) = v
  | 0, v, h => by simp [sumN]; lia
  | n + 1, v, h => by
    show sumN n (fun i => if i < v then 1 else 0) + (if n < v then 1 else 0) = _
    by_cases h1 : v ≤ n
    · rw [count_below n v h1, if_neg (by lia)]; lia
    · have : v = n + 1 := by lia
      subst this
      rw [sumN_congr n (g := fun i => if i < n then 1 else 0) fun j hj => by rw [if_pos (by lia), if_pos hj], count_below n n (Nat.le_refl _), if_pos (by lia)]
      lia
theorem Perm.count {n : Nat} {ρ : Nat → Nat} (P : Perm n ρ) (j : Nat) (hj : j < n) : sumN n (fun i => if ρ i < ρ j then 1 else 0) = ρ j := by
  rw [P.sum (fun v => if v < ρ j then 1 else 0)]
  exact count_below n _ (Nat.le_of_lt (P.below j hj))
theorem sum_id : ∀ n : Nat, 2 * sumN n (fun j => (j : Int)) = (n : Int) * n - n
  | 0 => rfl
  | n + 1 => by
    show 2 * (sumN n (fun j => (j : Int)) + n) = ((n + 1 : Nat) : Int) * ((n + 1 : Nat) : Int) - ((n + 1 : Nat) : Int)
    have := sum_id n
    push_cast
    grind
theorem sum_sq : ∀ n : Nat, 6 * sumN n (fun j => (j : Int) * j) = 2 * (n : Int) * n * n - 3 * n * n + n
  | 0 => rfl
  | n + 1 => by
    show 6 * (sumN n (fun j => (j : Int) * j) + n * n) = 2 * ((n + 1 : Nat) : Int) * ((n + 1 : Nat) : Int) * ((n + 1 : Nat) : Int) - 3 * ((n + 1 : Nat) : Int) * ((n + 1 : Nat) : Int) + ((n + 1 : Nat) : Int)
    have := sum_sq n
    push_cast
    grind
/-- the product of two ranks, each from its middle, doubled -/
def SP (n : Nat) (ρ σ : Nat → Nat) : Int := sumN n fun j => (2 * (ρ j : Int) - (n - 1)) * (2 * (σ j : Int) - (n - 1))
def RS (n : Nat) (ρ σ : Nat → Nat) : Int := sumN n fun j => (ρ j : Int) * σ j
theorem Perm.one {n : Nat} {ρ : Nat → Nat} (P : Perm n ρ) : 2 * sumN n (fun j => (ρ j : Int)) = (n : Int) * n - n := by
  rw [P.sum (fun v => (v : Int))]
  exact sum_id n
theorem sp_rs {n : Nat} {ρ σ : Nat → Nat} (P : Perm n ρ) (S : Perm n σ) : SP n ρ σ = 4 * RS n ρ σ - (n : Int) * (n - 1) * (n - 1) := by
  have e : SP n ρ σ = sumN n (fun j => (4 * ((ρ j : Int) * σ j) - 2 * ((n : Int) - 1) * ρ j) - (2 * ((n : Int) - 1) * σ j - ((n : Int) - 1) * (n - 1))) :=
    sumN_congr n fun j _ => by grind
  rw [e, sumN_sub, sumN_sub, sumN_sub, sumN_mul, sumN_mul, sumN_mul, sumN_const]
  have p := P.one
  have s := S.one
  show 4 * RS n ρ σ - _ - _ = _
  generalize sumN n (fun j => (ρ j : Int)) = a at *
  generalize sumN n (fun j => (σ j : Int)) = b at *
  generalize RS n ρ σ = c at *
  have e1 : 2 * ((n : Int) - 1) * a = (n - 1) * (n * n - n) := by rw [← p]; grind
  have e2 : 2 * ((n : Int) - 1) * b = (n - 1) * (n * n - n) := by rw [← s]; grind
  rw [e1, e2]
  grind
theorem rs_self {n : Nat} {ρ : Nat → Nat} (P : Perm n ρ) : 6 * RS n ρ ρ = 2 * (n : Int) * n * n - 3 * n * n + n := by
  unfold RS
  rw [P.sum (fun v => (v : Int) * v)]
  exact sum_sq n
/-- both squares' sums are one number, doubled the sixth -/
theorem sp_self {n N : Nat} {ρ : Nat → Nat} (P : Perm n ρ) (hN : (n : Int) * n * n - n = 6 * N) : SP n ρ ρ = 2 * N := by
  have a := sp_rs P P
  have b := rs_self P
  grind
/-- how far apart the pairs lie that stand the wrong way round -/
def wrong (n : Nat) (ρ : Nat → Nat) : Int := sumN n fun i => sumN i fun j => if ρ i < ρ j then (i : Int) - j else 0
theorem rs_wrong {n : Nat} {ρ : Nat → Nat} (P : Perm n ρ) : RS n ρ id = sumN n (fun j => (j : Int) * j) - wrong n ρ := by
  have e : RS n ρ id = sumN n (fun j => sumN n fun i => (j : Int) * (if ρ i < ρ j then 1 else 0)) :=
    sumN_congr n fun j hj => by
      rw [sumN_mul, P.count j hj]
      exact Int.mul_comm _ _
  rw [e, sum_dbl, wrong, ← sumN_sub, ← sumN_add]
  refine sumN_congr n fun j hj => ?_
  show sumN j (fun i => (j : Int) * (if ρ i < ρ j then 1 else 0) + i * (if ρ j < ρ i then 1 else 0)) + (j : Int) * (if ρ j < ρ j then 1 else 0) = _
  rw [if_neg (Nat.lt_irrefl _), Int.mul_zero, Int.add_zero, ← sumN_const, ← sumN_sub]
  refine sumN_congr j fun i hi => ?_
  rcases Nat.lt_trichotomy (ρ i) (ρ j) with h | h | h
  · rw [if_pos h, if_neg (by lia), if_neg (by lia)]; lia
  · exact absurd (P.inj i j (by lia) hj h) (by lia)
  · rw [if_neg (by lia), if_pos h, if_pos h]; lia
theorem perm_id (n : Nat) : Perm n id := ⟨fun _ h => h, fun _ _ _ _ h => h⟩
/-- the first answer -/
theorem sp_first {n N : Nat} {ρ : Nat → Nat} (P : Perm n ρ) (hN : (n : Int) * n * n - n = 6 * N) : SP n ρ id = 2 * (N - 2 * wrong n ρ) := by
  have a := sp_rs P (perm_id n)
  have b := rs_wrong P
  have c := sum_sq n
  grind
/-- each answer is within the sixth -/
theorem sp_le {n N : Nat} {ρ σ : Nat → Nat} (P : Perm n ρ) (S : Perm n σ) (hN : (n : Int) * n * n - n = 6 * N) {W : Int} (hW : SP n ρ σ = 2 * W) : W.natAbs ≤ N := by
  have a := sp_self P hN
  have b := sp_self S hN
  have sq : ∀ c : Int, c = 1 ∨ c = -1 → 0 ≤ SP n ρ ρ + SP n σ σ + 2 * c * SP n ρ σ := fun c hc => by
    have e : SP n ρ ρ + SP n σ σ + 2 * c * SP n ρ σ = sumN n fun j => ((2 * (ρ j : Int) - (n - 1)) + c * (2 * (σ j : Int) - (n - 1))) * ((2 * (ρ j : Int) - (n - 1)) + c * (2 * (σ j : Int) - (n - 1))) := by
      unfold SP
      rw [← sumN_add, ← sumN_mul, ← sumN_add]
      refine sumN_congr n fun j _ => ?_
      have : c * c = 1 := by rcases hc with rfl | rfl <;> rfl
      generalize (2 * (ρ j : Int) - (n - 1)) = x
      generalize (2 * (σ j : Int) - (n - 1)) = y
      grind
    rw [e]
    exact sumN_nonneg n fun j _ => by
      generalize (2 * (ρ j : Int) - (n - 1)) + c * (2 * (σ j : Int) - (n - 1)) = z
      rcases Int.le_total 0 z with h | h
      · exact Int.mul_nonneg h h
      · exact Int.mul_nonneg_of_nonpos_of_nonpos h h
  have h1 := sq 1 (.inl rfl)
  have h2 := sq (-1) (.inr rfl)
  omega
/-- neighbours exchanged -/
def swp (k j : Nat) : Nat := if j = k - 1 then k else if j = k then k - 1 else j
theorem perm_swp {n k : Nat} (h1 : 1 ≤ k) (h2 : k < n) : Perm n (swp k) := by
  refine ⟨fun i hi => ?_, fun i j hi hj e => ?_⟩
  · unfold swp; split
    · lia
    · split <;> lia
  · unfold swp at e
    split at e <;> split at e <;> (try split at e) <;> (try split at e) <;> lia
theorem sp_swp {n N k : Nat} {ρ : Nat → Nat} (P : Perm n ρ) (hN : (n : Int) * n * n - n = 6 * N) (h1 : 1 ≤ k) (h2 : k < n) : SP n ρ (swp k) = 2 * (N - 2 * wrong n ρ + 2 * ((ρ (k - 1) : Int) - ρ k)) := by
  have a := sp_rs P (perm_swp h1 h2)
  have b := sp_rs P (perm_id n)
  have c := sp_first P hN
  have d : RS n ρ (swp k) = RS n ρ id + ((ρ (k - 1) : Int) - ρ k) := by
    have e : RS n ρ (swp k) = sumN n fun j => ((ρ j : Int) * j + (if j = k - 1 then (ρ (k - 1) : Int) else 0)) + (if j = k then -(ρ k : Int) else 0) :=
      sumN_congr n fun j _ => by
        unfold swp
        by_cases e1 : j = k - 1
        · subst e1
          rw [if_pos rfl, if_pos rfl, if_neg (by lia)]
          have : (k : Int) = ((k - 1 : Nat) : Int) + 1 := by lia
          rw [this]
          grind
        · by_cases e2 : j = k
          · subst e2
            rw [if_neg e1, if_pos rfl, if_neg e1, if_pos rfl]
            have : ((j - 1 : Nat) : Int) = (j : Int) - 1 := by lia
            rw [this]
            grind
          · rw [if_neg e1, if_neg e2, if_neg e1, if_neg e2]; lia
    rw [e, sumN_add, sumN_add, sumN_single, sumN_single, if_pos (by lia), if_pos h2]
    show RS n ρ id + _ + _ = _
    lia
  lia
theorem sp_comm (n : Nat) (ρ σ : Nat → Nat) : SP n ρ σ = SP n σ ρ := sumN_congr n fun _ _ => Int.mul_comm _ _
theorem Perm.zero {n : Nat} {ρ : Nat → Nat} (P : Perm n ρ) (v : Nat) (hv : v < n) : ∃ j, j < n ∧ ρ j = v := by
  have : v ∈ (List.range n).map ρ := P.range.mem_iff.mpr (List.mem_range.mpr hv)
  obtain ⟨j, hj, e⟩ := List.mem_map.mp this
  exact ⟨j, List.mem_range.mp hj, e⟩
end Mine
end

-- CX
section
open PySem PySem.W PySem.Calls PyProof.Rows
set_option maxRecDepth 100000
namespace Mine
/-- a call that waits for its contract -/
structure Held (P : Prop) : Prop where
  get : P
theorem hold {P : Prop} (h : Held P) : P := h.get
theorem len_made {prog : Program} {w : World} {A : Around} {E : Value → Shared → Prop} {s : Shared} {h₀ : Heap} {L a : Addr} {news : List (Addr × Obj)} {its : List Value} {c n : Nat} {Q : Value → Shared → Prop} (N : News h₀ L s.heap news) (hm : (a, listOf its.toArray c) ∈ news) (hn : its.length = n) (h66 : n ≤ 66)
    (h : ∀ t tk, s.toks ≤ tk → Q (.int (n : Int) t) { s with toks := tk }) : wpAny (model prog w) A (call (.builtin "len") [.ref a]) Q E s :=
  len_list (N.isList hm) (by rw [List.size_toArray, hn]; lia) (by rw [List.size_toArray, hn]; exact h _ _ (by first | exact Nat.le_refl _ | exact Nat.le_succ _ | lia))
section
variable {s : Shared} {w : World} {p : Program} {loose : List Str} {mean : ExcName → Option Value} {mg mb : Str → Option Value} {A₀ A : Around} {base h₀ g g' h h' : Heap} {outer : List Env} {L a : Addr} {m : Str → Option Value} {env env' : Env} {V V' W : List (Addr × Obj)} {E : Value → Shared → Prop}

theorem frames_env (hf : env.frame = env'.frame) (hk : env'.scope.kind ≠ .module) (h : g.FunFrames base (env :: outer)) : g.FunFrames base (env' :: outer) := ⟨hk, by rw [← hf]; exact h.2.1, h.2.2⟩
theorem fm_env (hf : env.frame = some L) : (env :: outer).filterMap (·.frame) = L :: outer.filterMap (·.frame) := by simp [List.filterMap, hf]

/-- from a python frame of any kind to the setting of the calls made in it, and back -/
theorem groundE {W₀ : List (Addr × Obj)} (B : Below A₀ base outer h₀) (F : Fr h₀ L s.heap m) (X₀ : (hd.heap_39 w.params).In h₀) (N : News h₀ L s.heap W₀) (T : Top p loose mean mg mb h₀) (XB : (hd.heap_39 w.params).In base) (TB : Top p loose mean mg mb base)
    (D : KtsDicts (outer.filterMap (·.frame)) h₀) (hA : A.frames = some (env :: outer)) (hf : env.frame = some L) (hck : env.scope.kind = .function)
    (hV : ∀ q ∈ V, q ∈ W₀) (hW : ∀ q ∈ W, q ∈ W₀) (hN : ∀ q ∈ W, ∀ r ∈ V, q.1 ≠ r.1) :
    ∃ g, Stand w p loose mean mg mb A base (env :: outer) g ∧ Sits g s.heap V ∧ Fr h₀ L g m ∧ (∀ q ∈ W, g.get? q.1 = some q.2) ∧
      ∀ g' h' V', KtsTurn ((env :: outer).filterMap (·.frame)) g g' → Sits g' h' V' →
        ∃ h₀', KtsTurn (outer.filterMap (·.frame)) h₀ h₀' ∧ Fr h₀' L h' m ∧ News h₀' L h' (V' ++ W) ∧ Below A₀ base outer h₀' ∧ (hd.heap_39 w.params).In h₀' ∧ Top p loose mean mg mb h₀' ∧ KtsDicts (outer.filterMap (·.frame)) h₀' := by
  obtain ⟨g, S, S1, Fg, hw, back⟩ := ground (A := { A with frames := some (envOf "" env.scope L 0 .none :: outer) }) (cn := "") (cs := env.scope) (a := 0) (ccd := .none) B F X₀ N T XB TB D rfl hck hV hW hN
  have fe : (envOf "" env.scope L 0 .none).frame = some L := rfl
  rw [fm_env fe] at back
  refine ⟨g, ⟨⟨hA, S.B.stays, frames_env (fe.trans hf.symm) (by rw [hck]; decide) S.B.frames⟩, S.X, S.T, S.XB, S.TB, ?_⟩, S1, Fg, hw, fun g' h' V' => ?_⟩
  · rw [fm_env hf]
    have := S.D
    rwa [fm_env fe] at this
  · rw [fm_env hf]
    exact back g' h' V'

theorem use_doesE {need : Nat} {f : Addr} {args : List Value} {kw : List (Str × Value)} {P : Option Value → List (Addr × Obj) → Prop} {W₀ : List (Addr × Obj)} {Q : Value → Shared → Prop} {dp un : Nat} {gd : Option (List Code)}
    (C : DoesA w need base f ⟨args, kw⟩ V P) (B : Below A₀ base outer h₀) (F : Fr h₀ L s.heap m) (X₀ : (hd.heap_39 w.params).In h₀) (N : News h₀ L s.heap W₀) (T : Top p loose mean mg mb h₀) (XB : (hd.heap_39 w.params).In base) (TB : Top p loose mean mg mb base)
    (D : KtsDicts (outer.filterMap (·.frame)) h₀) (hA : A = kAt dp un gd (env :: outer)) (hf : env.frame = some L) (hck : env.scope.kind = .function)
    (hV : ∀ q ∈ V, q ∈ W₀) (hW : ∀ q ∈ W, q ∈ W₀) (hN : ∀ q ∈ W, ∀ r ∈ V, q.1 ≠ r.1) (hdp : dp + need < recursionLimit) (hu : un + 10 * need < cLine) (hP0 : ∀ V', ¬ P none V')
    (hQ : ∀ h₀' h' tk' v V', P (some v) V' → s.toks ≤ tk' → KtsTurn (outer.filterMap (·.frame)) h₀ h₀' → Fr h₀' L h' m → News h₀' L h' (V' ++ W) → (∀ q ∈ W, ∀ r ∈ V', q.1 ≠ r.1) → Below A₀ base outer h₀' → (hd.heap_39 w.params).In h₀' → Top p loose mean mg mb h₀' → KtsDicts (outer.filterMap (·.frame)) h₀' →
      Q v { s with heap := h', toks := tk' }) :
    wpAny (model PG w) A (call (.ref f) args kw) Q E s := by
  subst hA
  obtain ⟨gg, S', V1, Fg, hw, back⟩ := groundE (A := kAt dp un gd (env :: outer)) B F X₀ N T XB TB D rfl hf hck hV hW hN
  have c1 := codeAny_grows (C (R := fun r s' => ∃ v V' g' h' tk', r = .ok (.ret v) ∧ s' = { s with heap := h', toks := tk' } ∧ P (some v) V' ∧ KtsTurn ((env :: outer).filterMap (·.frame)) gg g' ∧ Sits g' h' V') S' V1 hdp hu
    (fun g' h' tk' v V' hP T' SV => ⟨v, V', g', h', tk', rfl, rfl, hP, T', SV⟩) (fun h' tk' e V' hP _ => absurd hP (hP0 V')))
  refine wpAny_call (codeAny_mono c1 fun r s' hr => ?_)
  obtain ⟨G, v, V', g', h', tk', rfl, rfl, hP, T', SV⟩ := hr
  obtain ⟨h₀', T₂, F', N', B', X', T'', D'⟩ := back g' h' V' T' SV
  refine hQ h₀' h' tk' v V' hP G.toks T₂ F' N' (fun q hq r hr z => ?_) B' X' T'' D'
  obtain ⟨sl, hs⟩ := T'.up (hw q hq)
  have := (SV.has r hr).2
  rw [← z, hs] at this; cases this

theorem kts_memE {b : Addr} (hf : env.frame = some L) (hm : b ∈ (env :: outer).filterMap (·.frame)) : b = L ∨ b ∈ outer.filterMap (·.frame) := by
  rw [fm_env hf] at hm
  exact List.mem_cons.mp hm
/-- as groundE, with a base that knows the makes W -/
theorem bridgeE {W₀ : List (Addr × Obj)} (B : Below A₀ base outer h₀) (F : Fr h₀ L s.heap m) (X₀ : (hd.heap_39 w.params).In h₀) (N : News h₀ L s.heap W₀) (T : Top p loose mean mg mb h₀) (XB : (hd.heap_39 w.params).In base) (TB : Top p loose mean mg mb base)
    (D : KtsDicts (outer.filterMap (·.frame)) h₀) (hA : A.frames = some (env :: outer)) (hf : env.frame = some L) (hck : env.scope.kind = .function)
    (hV : ∀ q ∈ V, q ∈ W₀) (hW : ∀ q ∈ W, q ∈ W₀) (hN : ∀ q ∈ W, ∀ r ∈ V, q.1 ≠ r.1) :
    ∃ g b₂, Stand w p loose mean mg mb A b₂ (env :: outer) g ∧ Sits g s.heap V ∧ base.StaysIn b₂ ∧ (∀ q ∈ W, b₂.get? q.1 = some q.2) ∧
      ∀ g' h' V', KtsTurn ((env :: outer).filterMap (·.frame)) g g' → Sits g' h' V' →
        ∃ h₀', KtsTurn (outer.filterMap (·.frame)) h₀ h₀' ∧ Fr h₀' L h' m ∧ News h₀' L h' (V' ++ W) ∧ Below A₀ base outer h₀' ∧ (hd.heap_39 w.params).In h₀' ∧ Top p loose mean mg mb h₀' ∧ KtsDicts (outer.filterMap (·.frame)) h₀' ∧ ∀ q ∈ W, ∀ r ∈ V', q.1 ≠ r.1 := by
  obtain ⟨g, S, VV, Fg, hw, back⟩ := groundE (A := A) B F X₀ N T XB TB D hA hf hck hV hW hN
  obtain ⟨b₂, S₂, st, all⟩ := S.rebase
  refine ⟨g, b₂, S₂, VV, st, fun q hq => all _ _ (hw q hq) fun hm => ?_, fun g' h' V' T' S' => ?_⟩
  · have n0 := N q (hW q hq)
    rcases kts_memE hf hm with z | z
    · exact n0.2.1 z
    · obtain ⟨_, o, ho, _⟩ := B.frames.mem z
      rw [n0.2.2] at ho; cases ho
  · obtain ⟨h₀', T₂, F', N', B', X', T'', D'⟩ := back g' h' V' T' S'
    refine ⟨h₀', T₂, F', N', B', X', T'', D', fun q hq r hr z => ?_⟩
    obtain ⟨sl, hs⟩ := T'.up (hw q hq)
    have := (S'.has r hr).2
    rw [← z, hs] at this; cases this
section
variable {prog : Program} {K : Frag} {R : Result → Shared → Prop} {name qual : Str} {params : Arguments} {body : List Stmt} {scope : Scope} {dV kV doc pm cdv ct oc : Value} {an od : Option Addr} {osl : Array (Option Value)} {f : Addr} {args : Args} {binds : List (Str × Value)}
/-- the entry to a python function with cells, seen from the callee -/
theorem enterC (S : Sits g s.heap V) (X₀ : K.In g) (T : Top p loose mean mg mb g)
    (ho : K.lookup f = some ⟨oc, od, .func (fnOf name qual params body scope dV kV doc pm an cdv ct), osl⟩) (hcd : codeIn K cdv qual = true) (hroom : A.depth < recursionLimit)
    (hbind : BindsTo s (fnOf name qual params body scope dV kV doc pm an cdv ct) args binds) (hkind : (binds.all fun y => scope.names.lookup y.1 == some .local || scope.names.lookup y.1 == some .cell) = true)
    (hnd : ((cellsFrom 0 scope.names []).map (·.1)).Nodup)
    (h : ∀ L' h₁ tk cells, Fr g L' h₁ (bindL (envOfC qual scope L' f cdv).kindOf binds fun _ => none) → News g L' h₁ (cells ++ V) →
      CellsAre (bindC (envOfC qual scope L' f cdv).kindOf binds fun _ => none) (cellsFrom (L' + 1) scope.names []) cells → (∀ q ∈ V, q.1 < L') →
      wpAny (model prog w) (A.deeper (envOfC qual scope L' f cdv)) (execs body (envOfC qual scope L' f cdv))
        (fun fl s' => R (.ok (.ret (match fl with | .ret v => v | _ => .none))) s')
        (fun e s' => wpAny (model prog w) (A.deeper (envOfC qual scope L' f cdv)) (leaving (envOfC qual scope L' f cdv) e) (fun _ s'' => R (.error e) s'') (fun e' s'' => R (.error e') s'') s')
        { s with heap := h₁, toks := tk })
    (hco : scope.isCoroutine = false) (hgen : scope.isGenerator = false) (hk : scope.kind = .function) : codeAny (model prog w) A (.call (.ref f) args) R s := by
  have X := X₀.keeps S.keep
  have hlim := T.nolimit.keeps S.keep
  refine codeAny_call_function (fd := fnOf name qual params body scope dV kV doc pm an cdv ct) hroom (X _ _ ho) rfl hco hgen rfl (codeRec_of X hcd) (hbind _ _ _ _ ?_)
  refine wpAny_newFunctionEnv_cells hk (kindsX hkind _) fun env' he s' x => ?_
  subst he
  refine ⟨hlim.keeps x.toInCall.keep, codeAny_func ?_⟩
  obtain ⟨h₁, tk, rfl, _⟩ := x.done
  have hk₁ := x.toInCall.keep
  obtain ⟨cells, NC, Y⟩ := Cl.news (h₀ := s.heap) (Nat.le_refl _) fun n c hm => ⟨x.cell n c (lookup_of_mem_nodup (cellsFrom_names scope.names 0 (s.heap.objs.size + 1) [] [] rfl ▸ hnd) hm), x.above n c hm⟩
  refine h s.heap.objs.size h₁ tk cells ⟨x.toInCall.ns, fun b o e => hk₁ b o (S.keep b o e), S.size⟩ (fun q hq => ?_) Y (fun q hq => Heap.lt_size (S.has q hq).1)
  rcases List.mem_append.mp hq with hq | hq
  · refine ⟨(NC q hq).1, (NC q hq).2.1, ?_⟩
    cases z : g.get? q.1 with
    | none => rfl
    | some o => have := S.keep _ _ z; rw [(NC q hq).2.2] at this; cases this
  · exact ⟨hk₁ _ _ (S.has q hq).1, Nat.ne_of_lt (Heap.lt_size (S.has q hq).1), (S.has q hq).2⟩
end
end
end Mine
end

section
open PySem PySem.W PySem.Calls PyProof.Rows Mine
local macro_rules | `(tactic| k_room) => `(tactic| ((try simp only [depth_mark, depth_under_make, depth_under_kw, depth_in1, depth_deeper, depth_caller]); (try dsimp only [kAt]); lia))
local macro_rules | `(tactic| k_units) => `(tactic| ((try simp only [units_in1, units_deeper, Around.mark_units, units_caller]); (try dsimp only [kAt]); lia))
local macro_rules | `(tactic| k_handed) => `(tactic| assumption)
local macro_rules | `(tactic| k_ne) => `(tactic| (refine neN ?_; (try dsimp only); first | assumption | exact Ne.symm (by assumption) | lia))

-- WST
section
open PySem PySem.W PySem.Calls PyProof.Rows
set_option maxRecDepth 100000
namespace Mine
section
variable {w : World} {base : Heap}
set_option maxHeartbeats 8000000 in
theorem step_item {gb dg itr ig di tu sl ta : Addr} {cg ser : Int} {tcg tser t7 : Tok} {ck cv tk : Option Value} {hck hcv htk : Bool} {vs : List Value} {k : Nat} {key i0 : Value} (D : GbApart gb dg itr ig di tu)
    (hl : base.IsList sl vs.toArray) (hx : vs.toArray[k]? = some (.ref ta)) (hta : IsTup base ta #[key, i0]) (hkey : handedIn key = true) :
    Does w 10 base 113 [.ref gb] [(gb, gbObj dg cg tcg ck cv hck hcv htk (.ref itr) (.ref ig) ser tser tk), (dg, dictOf [] 0), (itr, litObj sl (k : Int)), (ig, igObj di tu), (di, dictOf [] 0), (tu, tup0 t7)]
      (fun r V' => r = some .none ∧ V' = [(gb, gbObj dg cg tcg (some key) (some (.ref ta)) true true htk (.ref itr) (.ref ig) ser tser tk), (dg, dictOf [] 0), (itr, litObj sl ((k + 1 : Nat) : Int)), (ig, igObj di tu), (di, dictOf [] 0), (tu, tup0 t7)]) := by
  intro p loose mean mg mb dp un gd outer g s R S V hd hu hq he
  obtain ⟨B, X, T, XB, TB, KD⟩ := S
  obtain ⟨n1, n2, n3, n4, n5, n6, n7, n8, n9⟩ := D
  k_lift B
  revert X; unfold PG; k_fill; intro X
  (k_dflt (refine' enter ?zSz ?zXz ?zTz ?zk6z ?zk7z ?zk8z ?zk9z ?zkBz ?_ ?zc2z ?zc3z ?zc4z ?zc5z; (case zSz => assumption); (case zXz => assumption); (case zTz => assumption); (case zk6z => k_is); (case zk7z => k_is); (case zk8z => k_room); (case zk9z => first | exact BindsTo.of_eq rfl | exact binds_K (by k_in) rfl (by k_is) rfl rfl rfl | (refine' kp_binds ?zkxz ?zkez; (case zkxz => exact Frag.In.keeps (by assumption) (fun b o e => Sits.keep (by assumption) b o e)); (case zkez => exact fun _ => rfl))); (case zkBz => exact locs rfl); (case zc2z => exact rfl); (case zc3z => exact rfl); (case zc4z => exact rfl); (case zc5z => decide); k_whole; intro L' h' F' N'; (try dsimp only); (try k_fold)))
  (repeat' (first | (k_unfold; (try dsimp only)) | (k_end; kc_close) | (with_reducible ((k_here; (with_reducible show wpAny _ _ (call (Value.builtin "next") [Value.ref _]) _ _ _); k_dflt (refine' next_lit ?zFz ?zNz ?zUz ?zlz ?zxz ?_; (case zFz => k_asm); (case zNz => k_asm); (case zUz => k_upd); (case zlz => k_asm); (case zxz => k_asm)); intro h' F' N'; (try k_sweep)))) | (with_reducible ((k_here; (try k_gentoks); (with_reducible refine wpAny_execs_cons ?_); (try dsimp only); (try k_fold)))) | (with_reducible ((with_reducible show wpAny _ _ (getMethod (Value.ref _) _ _) _ _ _); (k_here; k_dflt (refine' method_slot ?zk1z ?zk2z ?zk3z ?zk4z ?zk5z ?zk6z ?zkTz ?zk7z ?zk8z ?zk9z ?zk10z ?zk11z ?_; (case zk1z => k_asm); (case zk2z => k_asm); (case zk3z => k_inst); (case zk4z => k_is); (case zk5z => k_is); (case zk6z => k_is); (case zkTz => k_is); (case zk7z => k_is); (case zk8z => k_is); (case zk9z => k_is); (case zk10z => k_slotget); (case zk11z => k_handed); k_whole)))) | walk1 | (dsimp only; walk1) | (leave1; (try dsimp only))))
  exact hq _ _ _ _ _ ⟨rfl, rfl⟩ .refl (Sits.of_fr (by k_asm) (cb_drop (by assumption) (by kcj_all)))
end
section
variable {w : World} {base : Heap}
set_option maxHeartbeats 8000000 in
theorem step_end {gb dg itr ig di tu : Addr} {io io' : Obj} {cg ser : Int} {tcg tser t7 : Tok} {ck cv tk : Option Value} {hck hcv htk : Bool} (D : GbApart gb dg itr ig di tu)
    (hE : Ends PG w base itr io io') :
    Does w 10 base 113 [.ref gb] [(gb, gbObj dg cg tcg ck cv hck hcv htk (.ref itr) (.ref ig) ser tser tk), (dg, dictOf [] 0), (itr, io), (ig, igObj di tu), (di, dictOf [] 0), (tu, tup0 t7)]
      (fun r V' => r = none ∧ V' = [(gb, gbObj dg cg tcg ck cv hck hcv htk (.ref itr) (.ref ig) ser tser tk), (dg, dictOf [] 0), (itr, io'), (ig, igObj di tu), (di, dictOf [] 0), (tu, tup0 t7)]) := by
  intro p loose mean mg mb dp un gd outer g s R S V hd hu hq he
  obtain ⟨B, X, T, XB, TB, KD⟩ := S
  obtain ⟨n1, n2, n3, n4, n5, n6, n7, n8, n9⟩ := D
  k_lift B
  revert X; unfold PG; k_fill; intro X
  (k_dflt (refine' enter ?zSz ?zXz ?zTz ?zk6z ?zk7z ?zk8z ?zk9z ?zkBz ?_ ?zc2z ?zc3z ?zc4z ?zc5z; (case zSz => assumption); (case zXz => assumption); (case zTz => assumption); (case zk6z => k_is); (case zk7z => k_is); (case zk8z => k_room); (case zk9z => first | exact BindsTo.of_eq rfl | exact binds_K (by k_in) rfl (by k_is) rfl rfl rfl | (refine' kp_binds ?zkxz ?zkez; (case zkxz => exact Frag.In.keeps (by assumption) (fun b o e => Sits.keep (by assumption) b o e)); (case zkez => exact fun _ => rfl))); (case zkBz => exact locs rfl); (case zc2z => exact rfl); (case zc3z => exact rfl); (case zc4z => exact rfl); (case zc5z => decide); k_whole; intro L' h' F' N'; (try dsimp only); (try k_fold)))
  (repeat' (first | (k_unfold; (try dsimp only)) | (k_end; kc_close) | (with_reducible ((k_here; (with_reducible show wpAny _ _ (call (Value.ref 76) _) _ _ _); k_dflt (refine wpAny_call ?_; kts_go)))) | (with_reducible ((k_here; (with_reducible show wpAny _ _ (call (Value.builtin "next") [Value.ref _]) _ _ _); k_dflt (refine' next_ends ?zXz ?zHz ?zBz ?zFz ?zNz ?zUz ?_; (case zXz => k_asm); (case zHz => exact rfl); (case zBz => k_asm); (case zFz => k_asm); (case zNz => k_asm); (case zUz => k_upd)); intro h1' h' e' F' N' X'; (try k_sweep)))) | (with_reducible ((k_here; (try k_gentoks); (with_reducible refine wpAny_execs_cons ?_); (try dsimp only); (try k_fold)))) | (with_reducible ((with_reducible show wpAny _ _ (noteFrame (Value.ref _) _) _ _ _); (k_here; (rename Heap.MadeExc _ _ _ _ _ => mxX); k_dflt (refine' caught_stop mxX ?zFz ?zNz ?zKz ?zXBz ?zTBz ?zDz ?zT0z ?zexz ?_; (case zFz => assumption); (case zNz => assumption); (case zKz => assumption); (case zXBz => assumption); (case zTBz => assumption); (case zDz => assumption); (case zT0z => first | assumption | exact KtsTurn.refl); (case zexz => k_is); k_whole); clear mxX; intro h' g' T0' F' N' B' X' T' D'; (try k_lift B')))) | (with_reducible ((with_reducible show wpAny _ _ (leaving _ (Value.ref _)) _ _ _); (k_here; first | (refine' leave_raiseZ ?zk1z ?zk0z ?zk2z ?zk3z ?_; (case zk0z => assumption); (case zk2z => assumption); (case zk1z => assumption); (case zk3z => k_asm); k_whole; intro h' Z') | (refine' leave_onZ ?zk1z ?zk2z ?zk3z ?_; (case zk3z => assumption); (case zk2z => assumption); (case zk1z => assumption); k_whole; intro h' Z')))) | walk1 | (dsimp only; walk1) | (leave1; (try dsimp only))))
  exact he _ _ _ _ ⟨rfl, rfl⟩ ((Fails.turn (by assumption) (by assumption)).sub (by kcj_all))
end
end Mine
end

-- WS
section
open PySem PySem.W PySem.Calls PyProof.Rows
set_option maxRecDepth 100000
namespace Mine
/-- what `_same` hears of two values -/
structure Asks (w : World) (base : Heap) (x y : Value) (b : Bool) : Prop where
  hx : handedIn x = true
  hy : handedIn y = true
  go : ∃ c : Bool, (c = true → b = true) ∧
    (∀ {A : Around} {E : Value → Shared → Prop} {s : Shared} {Q : Value → Shared → Prop}, base.StaysIn s.heap → A.depth + 5 < recursionLimit → A.units + 50 < cLine → Q (.bool c) s → wpAny (model PG w) A (compareOp .Is x y) Q E s) ∧
    (c = false → ∀ {A : Around} {E : Value → Shared → Prop} {s : Shared} {Q : Value → Shared → Prop}, base.StaysIn s.heap → A.depth + 5 < recursionLimit → A.units + 50 < cLine → Q (.bool b) s → wpAny (model PG w) A (compareOp .Eq x y) Q E s)
section
variable {w : World} {base : Heap}
set_option maxHeartbeats 8000000 in
theorem same_call {x y : Value} {b : Bool} (K : Asks w base x y b) : Does w 8 base 83 [x, y] [] (fun r V' => r = some (.bool b) ∧ V' = []) := by
  intro p loose mean mg mb dp un gd outer g s R S V hd hu hq he
  obtain ⟨B, X, T, XB, TB, KD⟩ := S
  obtain ⟨h1, h2, c, hc, hi, he'⟩ := K
  k_lift B
  revert X; unfold PG; k_fill; intro X
  (k_dflt (refine' enter ?zSz ?zXz ?zTz ?zk6z ?zk7z ?zk8z ?zk9z ?zkBz ?_ ?zc2z ?zc3z ?zc4z ?zc5z; (case zSz => assumption); (case zXz => assumption); (case zTz => assumption); (case zk6z => k_is); (case zk7z => k_is); (case zk8z => k_room); (case zk9z => first | exact BindsTo.of_eq rfl | exact binds_K (by k_in) rfl (by k_is) rfl rfl rfl | (refine' kp_binds ?zkxz ?zkez; (case zkxz => exact Frag.In.keeps (by assumption) (fun b o e => Sits.keep (by assumption) b o e)); (case zkez => exact fun _ => rfl))); (case zkBz => exact locs rfl); (case zc2z => exact rfl); (case zc3z => exact rfl); (case zc4z => exact rfl); (case zc5z => decide); k_whole; intro L' h' F' N'; (try dsimp only); (try k_fold)))
  (repeat' (first | (k_unfold; (try dsimp only)) | (k_end; kc_close) | (with_reducible ((k_here; (try k_gentoks); (with_reducible refine wpAny_execs_cons ?_); (try dsimp only); (try k_fold)))) | walk1 | (dsimp only; walk1) | (leave1; (try dsimp only))))
  refine hi (stays_of (by assumption) (by assumption)) (by k_room) (by k_units) ?_
  cases c with
  | true =>
    (repeat' (first | (k_unfold; (try dsimp only)) | (k_end; kc_close) | (with_reducible ((k_here; (try k_gentoks); (with_reducible refine wpAny_execs_cons ?_); (try dsimp only); (try k_fold)))) | walk1 | (dsimp only; walk1) | (leave1; (try dsimp only))))
    exact hq _ _ _ _ _ ⟨by rw [hc rfl], rfl⟩ .refl (Sits.of_fr (by k_asm) (cb_drop (by assumption) (by kcj_all)))
  | false =>
    (repeat' (first | (k_unfold; (try dsimp only)) | (k_end; kc_close) | (with_reducible ((k_here; (try k_gentoks); (with_reducible refine wpAny_execs_cons ?_); (try dsimp only); (try k_fold)))) | walk1 | (dsimp only; walk1) | (leave1; (try dsimp only))))
    refine he' rfl (stays_of (by assumption) (by assumption)) (by k_room) (by k_units) ?_
    cases b with
    | true =>
      (repeat' (first | (k_unfold; (try dsimp only)) | (k_end; kc_close) | (with_reducible ((k_here; (try k_gentoks); (with_reducible refine wpAny_execs_cons ?_); (try dsimp only); (try k_fold)))) | walk1 | (dsimp only; walk1) | (leave1; (try dsimp only))))
      exact hq _ _ _ _ _ ⟨rfl, rfl⟩ .refl (Sits.of_fr (by k_asm) (cb_drop (by assumption) (by kcj_all)))
    | false =>
      (repeat' (first | (k_unfold; (try dsimp only)) | (k_end; kc_close) | (with_reducible ((k_here; (try k_gentoks); (with_reducible refine wpAny_execs_cons ?_); (try dsimp only); (try k_fold)))) | walk1 | (dsimp only; walk1) | (leave1; (try dsimp only))))
      exact hq _ _ _ _ _ ⟨rfl, rfl⟩ .refl (Sits.of_fr (by k_asm) (cb_drop (by assumption) (by kcj_all)))
end
end Mine
end

-- WN
section
open PySem PySem.W PySem.Calls PyProof.Rows
set_option maxRecDepth 100000
namespace Mine
section
variable {w : World} {base : Heap}
set_option maxHeartbeats 8000000 in
theorem next_first {gb dg itr ig di tu sl ta : Addr} {cg ser : Int} {tcg tser t7 : Tok} {ck cv tk : Option Value} {hcv : Bool} {vs : List Value} {k : Nat} {key i0 : Value} (D : GbApart gb dg itr ig di tu)
    (hl : base.IsList sl vs.toArray) (hx : vs.toArray[k]? = some (.ref ta)) (hta : IsTup base ta #[key, i0]) (hkey : handedIn key = true) :
    Does w 14 base 120 [.ref gb] [(gb, gbObj dg cg tcg ck cv false hcv false (.ref itr) (.ref ig) ser tser tk), (dg, dictOf [] 0), (itr, litObj sl (k : Int)), (ig, igObj di tu), (di, dictOf [] 0), (tu, tup0 t7)]
      (fun r V' => ∃ (D gr dgr : Nat) (t1 t2 t3 : Tok), r = some (.ref D) ∧ (@LT.lt Nat _ gb dgr ∧ @LT.lt Nat _ dg dgr ∧ @LT.lt Nat _ itr dgr ∧ @LT.lt Nat _ ig dgr ∧ @LT.lt Nat _ di dgr ∧ @LT.lt Nat _ tu dgr) ∧ @LT.lt Nat _ dgr gr ∧ @LT.lt Nat _ gr D ∧
        V' = [(D, { cls := .type "tuple", data := .seq #[key, .ref gr] }), (gr, grObj dgr gb key (ser + 1) t3), (dgr, dictOf [] 0), (gb, gbObj dg (ser + 1) t1 (some key) (some (.ref ta)) true true true (.ref itr) (.ref ig) (ser + 1) t2 (some key)), (dg, dictOf [] 0), (itr, litObj sl ((k + 1 : Nat) : Int)), (ig, igObj di tu), (di, dictOf [] 0), (tu, tup0 t7)]) := by
  intro p loose mean mg mb dp un gd outer g s R S V hd hu hq he
  obtain ⟨B, X, T, XB, TB, KD⟩ := S
  have DD := D
  obtain ⟨n1, n2, n3, n4, n5, n6, n7, n8, n9⟩ := D
  k_lift B
  revert X; unfold PG; k_fill; intro X
  (k_dflt (refine' enter ?zSz ?zXz ?zTz ?zk6z ?zk7z ?zk8z ?zk9z ?zkBz ?_ ?zc2z ?zc3z ?zc4z ?zc5z; (case zSz => assumption); (case zXz => assumption); (case zTz => assumption); (case zk6z => k_is); (case zk7z => k_is); (case zk8z => k_room); (case zk9z => first | exact BindsTo.of_eq rfl | exact binds_K (by k_in) rfl (by k_is) rfl rfl rfl | (refine' kp_binds ?zkxz ?zkez; (case zkxz => exact Frag.In.keeps (by assumption) (fun b o e => Sits.keep (by assumption) b o e)); (case zkez => exact fun _ => rfl))); (case zkBz => exact locs rfl); (case zc2z => exact rfl); (case zc3z => exact rfl); (case zc4z => exact rfl); (case zc5z => decide); k_whole; intro L' h' F' N'; (try dsimp only); (try k_fold)))
  (repeat' (first | (k_unfold; (try dsimp only)) | (k_end; kc_close) | (with_reducible ((k_here; (with_reducible show wpAny _ _ (call (Value.ref 113) _) _ _ _); k_dflt (refine' use_does (W := []) (step_item ?zGz ?zlz ?zxz ?zaz ?zkz) ?zBz ?zFz ?zXz ?zNz ?zTz ?zXBz ?zTBz ?zDz ?zAz ?zckz ?zhVz ?zhWz ?zhNz ?zhdz ?zhuz ?_ ?zhEz; (case zBz => k_asm); (case zFz => k_asm); (case zXz => k_asm); (case zNz => k_asm); (case zTz => k_asm); (case zXBz => assumption); (case zTBz => assumption); (case zDz => assumption); (case zAz => exact rfl); (case zckz => exact rfl); (case zGz => assumption); (case zlz => assumption); (case zhVz => kcj_all); (case zxz => assumption); (case zaz => assumption); (case zkz => assumption); (case zhWz => exact List.forall_mem_nil _); (case zhNz => exact List.forall_mem_nil _); (case zhdz => k_room); (case zhuz => k_units); (case zhEz => (intro _ _ _ _ hP _; cases hP.1))); (intro h₀' h' tk' v V' hP T₂ F' N' nW B' X' T' D'; (obtain ⟨hv, hV'⟩ := hP); subst hV'; cases hv; (try dsimp only [List.nil_append, List.cons_append] at N'); (try clear nW); (try k_lift B'); (try k_sweep))))) | (with_reducible ((k_here; (try k_gentoks); (with_reducible refine wpAny_execs_cons ?_); (try dsimp only); (try k_fold)))) | walk1 | (dsimp only; walk1) | (leave1; (try dsimp only))))
  refine hq _ _ _ _ _ ⟨_, _, _, _, _, _, rfl, ⟨?_, ?_, ?_, ?_, ?_, ?_⟩, ?_, ?_, rfl⟩ (by assumption) (Sits.of_fr (by k_asm) (cb_drop (by assumption) (by kcj_all))) <;> lia
end
end Mine
end

-- WN2
section
open PySem PySem.W PySem.Calls PyProof.Rows
set_option maxRecDepth 100000
namespace Mine
section
variable {w : World} {base : Heap}
set_option maxHeartbeats 8000000 in
theorem next_more {gb dg itr ig di tu ta : Addr} {cg ser : Int} {tcg tser t7 : Tok} {key key' : Value} {io : Obj} (D : GbApart gb dg itr ig di tu) (K : Asks w base key' key false) :
    Does w 14 base 120 [.ref gb] [(gb, gbObj dg cg tcg (some key) (some (.ref ta)) true true true (.ref itr) (.ref ig) ser tser (some key')), (dg, dictOf [] 0), (itr, io), (ig, igObj di tu), (di, dictOf [] 0), (tu, tup0 t7)]
      (fun r V' => ∃ (D gr dgr : Nat) (t1 t2 t3 : Tok), r = some (.ref D) ∧ (@LT.lt Nat _ gb dgr ∧ @LT.lt Nat _ dg dgr ∧ @LT.lt Nat _ itr dgr ∧ @LT.lt Nat _ ig dgr ∧ @LT.lt Nat _ di dgr ∧ @LT.lt Nat _ tu dgr) ∧ @LT.lt Nat _ dgr gr ∧ @LT.lt Nat _ gr D ∧
        V' = [(D, { cls := .type "tuple", data := .seq #[key, .ref gr] }), (gr, grObj dgr gb key (ser + 1) t3), (dgr, dictOf [] 0), (gb, gbObj dg (ser + 1) t1 (some key) (some (.ref ta)) true true true (.ref itr) (.ref ig) (ser + 1) t2 (some key)), (dg, dictOf [] 0), (itr, io), (ig, igObj di tu), (di, dictOf [] 0), (tu, tup0 t7)]) := by
  intro p loose mean mg mb dp un gd outer g s R S V hd hu hq he
  obtain ⟨B, X, T, XB, TB, KD⟩ := S
  have DD := D
  have h1 := K.hx
  have h2 := K.hy
  obtain ⟨n1, n2, n3, n4, n5, n6, n7, n8, n9⟩ := D
  k_lift B
  revert X; unfold PG; k_fill; intro X
  (k_dflt (refine' enter ?zSz ?zXz ?zTz ?zk6z ?zk7z ?zk8z ?zk9z ?zkBz ?_ ?zc2z ?zc3z ?zc4z ?zc5z; (case zSz => assumption); (case zXz => assumption); (case zTz => assumption); (case zk6z => k_is); (case zk7z => k_is); (case zk8z => k_room); (case zk9z => first | exact BindsTo.of_eq rfl | exact binds_K (by k_in) rfl (by k_is) rfl rfl rfl | (refine' kp_binds ?zkxz ?zkez; (case zkxz => exact Frag.In.keeps (by assumption) (fun b o e => Sits.keep (by assumption) b o e)); (case zkez => exact fun _ => rfl))); (case zkBz => exact locs rfl); (case zc2z => exact rfl); (case zc3z => exact rfl); (case zc4z => exact rfl); (case zc5z => decide); k_whole; intro L' h' F' N'; (try dsimp only); (try k_fold)))
  (repeat' (first | (k_unfold; (try dsimp only)) | (k_end; kc_close) | (with_reducible ((k_here; (with_reducible show wpAny _ _ (call (Value.ref 83) _) _ _ _); k_dflt (refine' use_does (same_call ?zQz) ?zBz ?zFz ?zXz ?zNz ?zTz ?zXBz ?zTBz ?zDz ?zAz ?zckz ?zhVz ?zhWz ?zhNz ?zhdz ?zhuz ?_ ?zhEz; (case zFz => k_asm); (case zBz => k_asm); (case zXz => k_asm); (case zNz => k_asm); (case zTz => k_asm); (case zXBz => assumption); (case zTBz => assumption); (case zDz => assumption); (case zAz => exact rfl); (case zckz => exact rfl); (case zQz => assumption); (case zhVz => exact List.forall_mem_nil _); (case zhWz => exact fun _ h => h); (case zhNz => exact fun _ _ _ h => nomatch h); (case zhdz => k_room); (case zhuz => k_units); (case zhEz => (intro _ _ _ _ hP _; cases hP.1))); (intro h₀' h' tk' v V' hP T₂ F' N' nW B' X' T' D'; (obtain ⟨hv, hV'⟩ := hP); subst hV'; cases hv; (try dsimp only [List.nil_append, List.cons_append] at N'); (try clear nW); (try k_lift B'); (try k_sweep))))) | (with_reducible ((k_here; (try k_gentoks); (with_reducible refine wpAny_execs_cons ?_); (try dsimp only); (try k_fold)))) | walk1 | (dsimp only; walk1) | (leave1; (try dsimp only))))
  refine hq _ _ _ _ _ ⟨_, _, _, _, _, _, rfl, ⟨?_, ?_, ?_, ?_, ?_, ?_⟩, ?_, ?_, rfl⟩ (by assumption) (Sits.of_fr (by k_asm) (cb_drop (by assumption) (by kcj_all))) <;> lia
end
section
variable {w : World} {base : Heap}
set_option maxHeartbeats 8000000 in
theorem next_over {gb dg itr ig di tu : Addr} {io io' : Obj} {cg ser : Int} {tcg tser t7 : Tok} {ck cv tk : Option Value} {hcv htk : Bool} (D : GbApart gb dg itr ig di tu) (hE : Ends PG w base itr io io') :
    Does w 14 base 120 [.ref gb] [(gb, gbObj dg cg tcg ck cv false hcv htk (.ref itr) (.ref ig) ser tser tk), (dg, dictOf [] 0), (itr, io), (ig, igObj di tu), (di, dictOf [] 0), (tu, tup0 t7)]
      (fun r V' => r = none ∧ ∃ t1, V' = [(gb, gbObj dg 0 t1 ck cv false hcv htk (.ref itr) (.ref ig) ser tser tk), (dg, dictOf [] 0), (itr, io'), (ig, igObj di tu), (di, dictOf [] 0), (tu, tup0 t7)]) := by
  intro p loose mean mg mb dp un gd outer g s R S V hd hu hq he
  obtain ⟨B, X, T, XB, TB, KD⟩ := S
  have DD := D
  obtain ⟨n1, n2, n3, n4, n5, n6, n7, n8, n9⟩ := D
  k_lift B
  revert X; unfold PG; k_fill; intro X
  (k_dflt (refine' enter ?zSz ?zXz ?zTz ?zk6z ?zk7z ?zk8z ?zk9z ?zkBz ?_ ?zc2z ?zc3z ?zc4z ?zc5z; (case zSz => assumption); (case zXz => assumption); (case zTz => assumption); (case zk6z => k_is); (case zk7z => k_is); (case zk8z => k_room); (case zk9z => first | exact BindsTo.of_eq rfl | exact binds_K (by k_in) rfl (by k_is) rfl rfl rfl | (refine' kp_binds ?zkxz ?zkez; (case zkxz => exact Frag.In.keeps (by assumption) (fun b o e => Sits.keep (by assumption) b o e)); (case zkez => exact fun _ => rfl))); (case zkBz => exact locs rfl); (case zc2z => exact rfl); (case zc3z => exact rfl); (case zc4z => exact rfl); (case zc5z => decide); k_whole; intro L' h' F' N'; (try dsimp only); (try k_fold)))
  (repeat' (first | (k_unfold; (try dsimp only)) | (k_end; kc_close) | (with_reducible ((with_reducible show wpAny _ _ (leaving _ (Value.ref _)) _ _ _); (k_here; (refine' leave_owes ?zk1z ?zk3z ?_; (case zk3z => assumption); (case zk1z => assumption); k_whole; intro h' Z')))) | (with_reducible ((k_here; (with_reducible show wpAny _ _ (call (Value.ref 113) _) _ _ _); k_dflt (refine' use_does (W := []) (step_end ?zGz ?zEz) ?zBz ?zFz ?zXz ?zNz ?zTz ?zXBz ?zTBz ?zDz ?zAz ?zckz ?zhVz ?zhWz ?zhNz ?zhdz ?zhuz ?zhQz ?_; (case zBz => k_asm); (case zFz => k_asm); (case zXz => k_asm); (case zNz => k_asm); (case zTz => k_asm); (case zXBz => assumption); (case zTBz => assumption); (case zDz => assumption); (case zAz => exact rfl); (case zckz => exact rfl); (case zGz => assumption); (case zEz => assumption); (case zhVz => kcj_all); (case zhWz => exact List.forall_mem_nil _); (case zhNz => exact List.forall_mem_nil _); (case zhdz => k_room); (case zhuz => k_units); (case zhQz => (intro _ _ _ _ _ hP; cases hP.1))); (intro h' tk' e V' hP O'; (obtain ⟨_, hV'⟩ := hP); subst hV'; (try dsimp only [List.nil_append, List.cons_append] at O'); (try k_sweep))))) | (with_reducible ((k_here; (try k_gentoks); (with_reducible refine wpAny_execs_cons ?_); (try dsimp only); (try k_fold)))) | walk1 | (dsimp only; walk1) | (leave1; (try dsimp only))))
  exact he _ _ _ _ ⟨rfl, _, rfl⟩ (by assumption)
end
end Mine
end

-- WG
section
open PySem PySem.W PySem.Calls PyProof.Rows
set_option maxRecDepth 100000
namespace Mine
theorem ne_self {prog : Program} {w : World} {A : Around} {E : Value → Shared → Prop} {s : Shared} {Q : Value → Shared → Prop} {a : Int} {t u : Tok} (h : Q (.bool false) s) : wpAny (model prog w) A (compareOp .NotEq (.int a t) (.int a u)) Q E s :=
  ne_int (by rw [bne_self_eq_false]; exact h)
section
variable {w : World} {base : Heap}
set_option maxHeartbeats 8000000 in
theorem gr_first {gr dgr gb dg itr ig di tu ta : Addr} {num ser : Int} {t1 t3 tser t7 : Tok} {key : Value} {io : Obj} (D : GbApart gb dg itr ig di tu) (K : Asks w base key key true) (ap : ∀ q ∈ [gr, dgr], ∀ r ∈ [gb, dg, itr, ig, di, tu], @Ne Nat q r) :
    Does w 14 base 165 [.ref gr] [(gr, grObj dgr gb key num t3), (dgr, dictOf [] 0), (gb, gbObj dg num t1 (some key) (some (.ref ta)) true true true (.ref itr) (.ref ig) ser tser (some key)), (dg, dictOf [] 0), (itr, io), (ig, igObj di tu), (di, dictOf [] 0), (tu, tup0 t7)]
      (fun r V' => r = some (.ref ta) ∧ V' = [(gr, grObj dgr gb key num t3), (dgr, dictOf [] 0), (gb, gbObj dg num t1 (some .none) (some .none) false false true (.ref itr) (.ref ig) ser tser (some key)), (dg, dictOf [] 0), (itr, io), (ig, igObj di tu), (di, dictOf [] 0), (tu, tup0 t7)]) := by
  intro p loose mean mg mb dp un gd outer g s R S V hd hu hq he
  obtain ⟨B, X, T, XB, TB, KD⟩ := S
  have DD := D
  have h1 := K.hx
  obtain ⟨n1, n2, n3, n4, n5, n6, n7, n8, n9⟩ := D
  have a1 := ap gr (by simp) gb (by simp)
  have a2 := ap gr (by simp) dg (by simp)
  have a3 := ap gr (by simp) itr (by simp)
  have a4 := ap gr (by simp) ig (by simp)
  have a5 := ap gr (by simp) di (by simp)
  have a6 := ap gr (by simp) tu (by simp)
  have b1 := ap dgr (by simp) gb (by simp)
  have b2 := ap dgr (by simp) dg (by simp)
  have b3 := ap dgr (by simp) itr (by simp)
  have b4 := ap dgr (by simp) ig (by simp)
  have b5 := ap dgr (by simp) di (by simp)
  have b6 := ap dgr (by simp) tu (by simp)
  k_lift B
  revert X; unfold PG; k_fill; intro X
  (k_dflt (refine' enter ?zSz ?zXz ?zTz ?zk6z ?zk7z ?zk8z ?zk9z ?zkBz ?_ ?zc2z ?zc3z ?zc4z ?zc5z; (case zSz => assumption); (case zXz => assumption); (case zTz => assumption); (case zk6z => k_is); (case zk7z => k_is); (case zk8z => k_room); (case zk9z => first | exact BindsTo.of_eq rfl | exact binds_K (by k_in) rfl (by k_is) rfl rfl rfl | (refine' kp_binds ?zkxz ?zkez; (case zkxz => exact Frag.In.keeps (by assumption) (fun b o e => Sits.keep (by assumption) b o e)); (case zkez => exact fun _ => rfl))); (case zkBz => exact locs rfl); (case zc2z => exact rfl); (case zc3z => exact rfl); (case zc4z => exact rfl); (case zc5z => decide); k_whole; intro L' h' F' N'; (try dsimp only); (try k_fold)))
  (repeat' (first | (k_unfold; (try dsimp only)) | (k_end; kc_close) | (with_reducible (with_reducible refine ne_self ?_)) | (with_reducible ((k_here; (with_reducible show wpAny _ _ (call (Value.ref 83) _) _ _ _); k_dflt (refine' use_does (same_call ?zQz) ?zBz ?zFz ?zXz ?zNz ?zTz ?zXBz ?zTBz ?zDz ?zAz ?zckz ?zhVz ?zhWz ?zhNz ?zhdz ?zhuz ?_ ?zhEz; (case zFz => k_asm); (case zBz => k_asm); (case zXz => k_asm); (case zNz => k_asm); (case zTz => k_asm); (case zXBz => assumption); (case zTBz => assumption); (case zDz => assumption); (case zAz => exact rfl); (case zckz => exact rfl); (case zQz => assumption); (case zhVz => exact List.forall_mem_nil _); (case zhWz => exact fun _ h => h); (case zhNz => exact fun _ _ _ h => nomatch h); (case zhdz => k_room); (case zhuz => k_units); (case zhEz => (intro _ _ _ _ hP _; cases hP.1))); (intro h₀' h' tk' v V' hP T₂ F' N' nW B' X' T' D'; (obtain ⟨hv, hV'⟩ := hP); subst hV'; cases hv; (try dsimp only [List.nil_append, List.cons_append] at N'); (try clear nW); (try k_lift B'); (try k_sweep))))) | (with_reducible ((k_here; (try k_gentoks); (with_reducible refine wpAny_execs_cons ?_); (try dsimp only); (try k_fold)))) | walk1 | (dsimp only; walk1) | (leave1; (try dsimp only))))
  first | exact hq _ _ _ _ _ ⟨rfl, rfl⟩ (by assumption) (Sits.of_fr (by k_asm) (cb_drop (by assumption) (by kcj_all))) | exact hq _ _ _ _ _ ⟨rfl, rfl⟩ .refl (Sits.of_fr (by k_asm) (cb_drop (by assumption) (by kcj_all)))
end
section
variable {w : World} {base : Heap}
set_option maxHeartbeats 8000000 in
theorem gr_differs {gr dgr gb dg itr ig di tu ta sl : Addr} {num ser : Int} {t1 t3 tser t7 : Tok} {key key' i0 : Value} {vs : List Value} {k : Nat} (D : GbApart gb dg itr ig di tu) (K : Asks w base key key' false)
    (ap : ∀ q ∈ [gr, dgr], ∀ r ∈ [gb, dg, itr, ig, di, tu], @Ne Nat q r)
    (hl : base.IsList sl vs.toArray) (hx : vs.toArray[k]? = some (.ref ta)) (hta : IsTup base ta #[key', i0]) (hkey : handedIn key' = true) :
    Does w 14 base 165 [.ref gr] [(gr, grObj dgr gb key num t3), (dgr, dictOf [] 0), (gb, gbObj dg num t1 (some .none) (some .none) false false true (.ref itr) (.ref ig) ser tser (some key)), (dg, dictOf [] 0), (itr, litObj sl (k : Int)), (ig, igObj di tu), (di, dictOf [] 0), (tu, tup0 t7)]
      (fun r V' => r = none ∧ V' = [(gb, gbObj dg num t1 (some key') (some (.ref ta)) true true true (.ref itr) (.ref ig) ser tser (some key)), (dg, dictOf [] 0), (itr, litObj sl ((k + 1 : Nat) : Int)), (ig, igObj di tu), (di, dictOf [] 0), (tu, tup0 t7)]) := by
  intro p loose mean mg mb dp un gd outer g s R S V hd hu hq he
  obtain ⟨B, X, T, XB, TB, KD⟩ := S
  have DD := D
  have h1 := K.hx
  obtain ⟨n1, n2, n3, n4, n5, n6, n7, n8, n9⟩ := D
  have a1 := ap gr (by simp) gb (by simp)
  have a2 := ap gr (by simp) dg (by simp)
  have a3 := ap gr (by simp) itr (by simp)
  have a4 := ap gr (by simp) ig (by simp)
  have a5 := ap gr (by simp) di (by simp)
  have a6 := ap gr (by simp) tu (by simp)
  have b1 := ap dgr (by simp) gb (by simp)
  have b2 := ap dgr (by simp) dg (by simp)
  have b3 := ap dgr (by simp) itr (by simp)
  have b4 := ap dgr (by simp) ig (by simp)
  have b5 := ap dgr (by simp) di (by simp)
  have b6 := ap dgr (by simp) tu (by simp)
  k_lift B
  revert X; unfold PG; k_fill; intro X
  (k_dflt (refine' enter ?zSz ?zXz ?zTz ?zk6z ?zk7z ?zk8z ?zk9z ?zkBz ?_ ?zc2z ?zc3z ?zc4z ?zc5z; (case zSz => assumption); (case zXz => assumption); (case zTz => assumption); (case zk6z => k_is); (case zk7z => k_is); (case zk8z => k_room); (case zk9z => first | exact BindsTo.of_eq rfl | exact binds_K (by k_in) rfl (by k_is) rfl rfl rfl | (refine' kp_binds ?zkxz ?zkez; (case zkxz => exact Frag.In.keeps (by assumption) (fun b o e => Sits.keep (by assumption) b o e)); (case zkez => exact fun _ => rfl))); (case zkBz => exact locs rfl); (case zc2z => exact rfl); (case zc3z => exact rfl); (case zc4z => exact rfl); (case zc5z => decide); k_whole; intro L' h' F' N'; (try dsimp only); (try k_fold)))
  (repeat' (first | (k_unfold; (try dsimp only)) | (k_end; kc_close) | (with_reducible ((k_here; (with_reducible show wpAny _ _ (call (Value.ref 113) _) _ _ _); k_dflt (refine' use_does (step_item ?zGz ?zlz ?zxz ?zaz ?zkz) ?zBz ?zFz ?zXz ?zNz ?zTz ?zXBz ?zTBz ?zDz ?zAz ?zckz ?zhVz ?zhWz ?zhNz ?zhdz ?zhuz ?_ ?zhEz; (case zBz => k_asm); (case zFz => k_asm); (case zXz => k_asm); (case zNz => k_asm); (case zTz => k_asm); (case zXBz => assumption); (case zTBz => assumption); (case zDz => assumption); (case zAz => exact rfl); (case zckz => exact rfl); (case zGz => assumption); (case zlz => assumption); (case zhVz => kcj_all); (case zxz => assumption); (case zaz => assumption); (case zkz => assumption); (case zhWz => exact fun _ h => List.mem_of_mem_take (i := 2) h); (case zhNz => (dsimp only [List.take]; repeat' (first | exact List.forall_mem_nil _ | refine List.forall_mem_cons.mpr ⟨?_, ?_⟩ | (dsimp only; assumption)))); (case zhdz => k_room); (case zhuz => k_units); (case zhEz => (intro _ _ _ _ hP _; cases hP.1))); (intro h₀' h' tk' v V' hP T₂ F' N' nW B' X' T' D'; (obtain ⟨hv, hV'⟩ := hP); subst hV'; cases hv; (try dsimp only [List.nil_append, List.cons_append, List.take] at N'); (try clear nW); (try k_lift B'); (try k_sweep))))) | (with_reducible (with_reducible refine ne_self ?_)) | (with_reducible ((k_here; (with_reducible show wpAny _ _ (call (Value.ref 83) _) _ _ _); k_dflt (refine' use_does (same_call ?zQz) ?zBz ?zFz ?zXz ?zNz ?zTz ?zXBz ?zTBz ?zDz ?zAz ?zckz ?zhVz ?zhWz ?zhNz ?zhdz ?zhuz ?_ ?zhEz; (case zFz => k_asm); (case zBz => k_asm); (case zXz => k_asm); (case zNz => k_asm); (case zTz => k_asm); (case zXBz => assumption); (case zTBz => assumption); (case zDz => assumption); (case zAz => exact rfl); (case zckz => exact rfl); (case zQz => assumption); (case zhVz => exact List.forall_mem_nil _); (case zhWz => exact fun _ h => h); (case zhNz => exact fun _ _ _ h => nomatch h); (case zhdz => k_room); (case zhuz => k_units); (case zhEz => (intro _ _ _ _ hP _; cases hP.1))); (intro h₀' h' tk' v V' hP T₂ F' N' nW B' X' T' D'; (obtain ⟨hv, hV'⟩ := hP); subst hV'; cases hv; (try dsimp only [List.nil_append, List.cons_append] at N'); (try clear nW); (try k_lift B'); (try k_sweep))))) | (with_reducible ((k_here; (try k_gentoks); (with_reducible refine wpAny_execs_cons ?_); (try dsimp only); (try k_fold)))) | (with_reducible ((with_reducible show wpAny _ _ (leaving _ (Value.ref _)) _ _ _); (k_here; first | (refine' leave_raiseZ ?zk1z ?zk0z ?zk2z ?zk3z ?_; (case zk0z => assumption); (case zk2z => assumption); (case zk1z => assumption); (case zk3z => k_asm); k_whole; intro h' Z') | (refine' leave_onZ ?zk1z ?zk2z ?zk3z ?_; (case zk3z => assumption); (case zk2z => assumption); (case zk1z => assumption); k_whole; intro h' Z')))) | walk1 | (dsimp only; walk1) | (leave1; (try dsimp only))))
  refine' he _ _ _ _ ⟨rfl, rfl⟩ (Fails.sub (Fails.turn ?z ?t) ?k)
  case z => assumption
  case t => exact KtsTurn.trans (by assumption) (by assumption)
  case k => kcj_all
end
section
variable {w : World} {base : Heap}
set_option maxHeartbeats 8000000 in
theorem gr_over {gr dgr gb dg itr ig di tu : Addr} {num ser : Int} {t1 t3 tser t7 : Tok} {key : Value} {io io' : Obj} (D : GbApart gb dg itr ig di tu) (hE : Ends PG w base itr io io') :
    Does w 14 base 165 [.ref gr] [(gr, grObj dgr gb key num t3), (dgr, dictOf [] 0), (gb, gbObj dg num t1 (some .none) (some .none) false false true (.ref itr) (.ref ig) ser tser (some key)), (dg, dictOf [] 0), (itr, io), (ig, igObj di tu), (di, dictOf [] 0), (tu, tup0 t7)]
      (fun r V' => r = none ∧ V' = [(gb, gbObj dg num t1 (some .none) (some .none) false false true (.ref itr) (.ref ig) ser tser (some key)), (dg, dictOf [] 0), (itr, io'), (ig, igObj di tu), (di, dictOf [] 0), (tu, tup0 t7)]) := by
  intro p loose mean mg mb dp un gd outer g s R S V hd hu hq he
  obtain ⟨B, X, T, XB, TB, KD⟩ := S
  have DD := D
  obtain ⟨n1, n2, n3, n4, n5, n6, n7, n8, n9⟩ := D
  k_lift B
  revert X; unfold PG; k_fill; intro X
  (k_dflt (refine' enter ?zSz ?zXz ?zTz ?zk6z ?zk7z ?zk8z ?zk9z ?zkBz ?_ ?zc2z ?zc3z ?zc4z ?zc5z; (case zSz => assumption); (case zXz => assumption); (case zTz => assumption); (case zk6z => k_is); (case zk7z => k_is); (case zk8z => k_room); (case zk9z => first | exact BindsTo.of_eq rfl | exact binds_K (by k_in) rfl (by k_is) rfl rfl rfl | (refine' kp_binds ?zkxz ?zkez; (case zkxz => exact Frag.In.keeps (by assumption) (fun b o e => Sits.keep (by assumption) b o e)); (case zkez => exact fun _ => rfl))); (case zkBz => exact locs rfl); (case zc2z => exact rfl); (case zc3z => exact rfl); (case zc4z => exact rfl); (case zc5z => decide); k_whole; intro L' h' F' N'; (try dsimp only); (try k_fold)))
  (repeat' (first | (k_unfold; (try dsimp only)) | (k_end; kc_close) | (with_reducible ((with_reducible show wpAny _ _ (leaving _ (Value.ref _)) _ _ _); (k_here; (refine' leave_owes ?zk1z ?zk3z ?_; (case zk3z => assumption); (case zk1z => assumption); k_whole; intro h' Z')))) | (with_reducible ((k_here; (with_reducible show wpAny _ _ (call (Value.ref 113) _) _ _ _); k_dflt (refine' use_does (W := []) (step_end ?zGz ?zEz) ?zBz ?zFz ?zXz ?zNz ?zTz ?zXBz ?zTBz ?zDz ?zAz ?zckz ?zhVz ?zhWz ?zhNz ?zhdz ?zhuz ?zhQz ?_; (case zBz => k_asm); (case zFz => k_asm); (case zXz => k_asm); (case zNz => k_asm); (case zTz => k_asm); (case zXBz => assumption); (case zTBz => assumption); (case zDz => assumption); (case zAz => exact rfl); (case zckz => exact rfl); (case zGz => assumption); (case zEz => assumption); (case zhVz => kcj_all); (case zhWz => exact List.forall_mem_nil _); (case zhNz => exact List.forall_mem_nil _); (case zhdz => k_room); (case zhuz => k_units); (case zhQz => (intro _ _ _ _ _ hP; cases hP.1))); (intro h' tk' e V' hP O'; (obtain ⟨_, hV'⟩ := hP); subst hV'; (try dsimp only [List.nil_append, List.cons_append] at O'); (try k_sweep))))) | (with_reducible (with_reducible refine ne_self ?_)) | (with_reducible ((k_here; (try k_gentoks); (with_reducible refine wpAny_execs_cons ?_); (try dsimp only); (try k_fold)))) | walk1 | (dsimp only; walk1) | (leave1; (try dsimp only))))
  exact he _ _ _ _ ⟨rfl, rfl⟩ (by assumption)
end
end Mine
end

-- IT
section
open PySem PySem.W PySem.Calls PyProof.Rows
set_option maxRecDepth 100000
namespace Mine
section
variable {prog : Program} {w : World} {A : Around} {E : Value → Shared → Prop} {s : Shared} {K : Frag} {g₀ : Heap} {x C f : Addr} {o : Obj} {name : Str} {r : Option Value}
theorem special_own {Q : Option Value → Shared → Prop} (X : K.In g₀) (k : g₀.StaysIn s.heap) (hx : s.heap.get? x = some o) (hc : o.cls = .ref C) (hf : findIn K (.ref C) name = some r) (h : Q r s) :
    wpAny (model prog w) A (specialOf (.ref x) name) Q E s := by
  unfold specialOf
  refine wpAny_bind (wpAny_typeOf_ref hx ?_)
  rw [hc]
  exact looks_findIn X hf A Q E s k h
theorem callSpecial_own {Q : Option Value → Shared → Prop} (X : K.In g₀) (k : g₀.StaysIn s.heap) (hx : s.heap.get? x = some o) (hc : o.cls = .ref C) (hf : findIn K (.ref C) name = some (some (.ref f))) (hty : typeIn K (.ref f) = some (.type "function"))
    (h : wpAny (model prog w) A (call (.ref f) [.ref x]) (fun v s' => Q (some v) s') E s) : wpAny (model prog w) A (callSpecial? (.ref x) name) Q E s := by
  unfold callSpecial?
  refine wpAny_bind (special_own X k hx hc hf ?_)
  refine wpAny_holding ?_
  refine wpAny_bind (bind_fn X (.ref x) hty A _ E s k ?_)
  exact wpAny_bind (wpAny_mono h (fun v s' q => wpAny_pure q) fun _ _ q => q)
theorem pyNext_own {Q : Option Value → Shared → Prop} (X : K.In g₀) (k : g₀.StaysIn s.heap) (hx : s.heap.get? x = some o) (hc : o.cls = .ref C) (hf : findIn K (.ref C) "__next__" = some (some (.ref f))) (hty : typeIn K (.ref f) = some (.type "function"))
    (h : wpAny (model prog w) A (call (.ref f) [.ref x]) (fun v s' => Q (some v) s') (fun e s' => ∃ a ob, e = .ref a ∧ s'.heap.get? a = some ob ∧ ob.cls = .type "StopIteration" ∧ Q none s') s) : wpAny (model prog w) A (pyNext (.ref x)) Q E s := by
  unfold pyNext
  refine wpAny_bind (wpAny_attempt (callSpecial_own X k hx hc hf hty (wpAny_mono h (fun v s' q => ?_) fun e s' q => ?_)))
  · exact wpAny_pure q
  · obtain ⟨a, ob, rfl, h1, h2, h3⟩ := q
    refine wpAny_bind (wpAny_isInstance (T := "StopIteration") (b := true) ⟨_, h1, h2⟩ stop_self ?_)
    exact wpAny_pure h3

theorem bindIf_own {Q : Option (Value × List Value) → Shared → Prop} (X : K.In g₀) (k : g₀.StaysIn s.heap) (hx : s.heap.get? x = some o) (hc : o.cls = .ref C) (hf : findIn K (.ref C) name = some (some (.ref f))) (hty : typeIn K (.ref f) = some (.type "function"))
    (h : Q (some (.ref f, [.ref x])) s) : wpAny (model prog w) A (bindSpecialIfBound? (.ref x) name) Q E s := by
  unfold bindSpecialIfBound?
  refine wpAny_bind (special_own X k hx hc hf ?_)
  dsimp only
  refine wpAny_bind (wpAny_askSetting ?_)
  have b : ∀ E', wpAny (model prog w) A (do return some (← bindSpecial (.ref f) (.ref x))) Q E' s := fun E' => wpAny_bind (bind_fn X (.ref x) hty A _ E' s k (wpAny_pure h))
  exact wpAny_ite_split (fun _ => b E) fun _ => wpAny_tryCatch (b _)
/-- iter of an own thing whose `__iter__` gives itself -/
theorem pyIter_own {Q : Value → Shared → Prop} {fn : Addr} (X : K.In g₀) (k : g₀.StaysIn s.heap) (hx : s.heap.get? x = some o) (hc : o.cls = .ref C) (hf : findIn K (.ref C) "__iter__" = some (some (.ref f))) (hty : typeIn K (.ref f) = some (.type "function")) (hn : findIn K (.ref C) "__next__" = some (some (.ref fn)))
    (h : wpAny (model prog w) A (call (.ref f) [.ref x]) (fun v s' => v = .ref x ∧ (∃ g₁, K.In g₁ ∧ g₁.StaysIn s'.heap) ∧ s'.heap.get? x = some o ∧ Q (.ref x) s') E s) : wpAny (model prog w) A (pyIter (.ref x)) Q E s := by
  unfold pyIter
  refine wpAny_bind (special_own X k hx hc hf ?_)
  dsimp only
  refine wpAny_bind ?_
  unfold callSpecialIfBoundUnlessNone?
  refine wpAny_holding ?_
  refine wpAny_bind (bindIf_own X k hx hc hf hty ?_)
  dsimp only
  rw [if_neg (show ¬ (Value.ref f == Value.none) = true from Bool.false_ne_true)]
  refine wpAny_bind (wpAny_mono h (fun v s' q => ?_) fun _ _ q => q)
  obtain ⟨rfl, ⟨g₁, X', k'⟩, hx', q⟩ := q
  refine wpAny_pure ?_
  dsimp only
  refine wpAny_bind (special_own X' k' hx' hc hn ?_)
  exact wpAny_pure q
/-- an own thing without a length -/
theorem noHint_own {Q : Bool → Shared → Prop} (X : K.In g₀) (k : g₀.StaysIn s.heap) (hx : s.heap.get? x = some o) (hc : o.cls = .ref C) (h1 : findIn K (.ref C) "__len__" = some none) (h2 : findIn K (.ref C) "__length_hint__" = some none)
    (h : Q true s) : wpAny (model prog w) A (Builtin.List.listLengthHint (.ref x)) Q E s := by
  unfold Builtin.List.listLengthHint
  refine wpAny_bind (special_own X k hx hc h1 ?_)
  refine wpAny_bind (special_own X k hx hc h2 ?_)
  exact wpAny_pure h

end
section
variable {w : World} {p : Program} {loose : List Str} {mean : ExcName → Option Value} {mg mb : Str → Option Value} {dp un : Nat} {gd : Option (List Code)} {outer : List Env} {base g : Heap} {s : Shared} {V : List (Addr × Obj)} {P : Option Value → List (Addr × Obj) → Prop} {need : Nat} {x C f : Addr} {o : Obj} {E : Value → Shared → Prop}
theorem reground {h : Heap} {A : Around} {W : List (Addr × Obj)} (S : Stand w p loose mean mg mb A base outer g) (Vs : Sits g h (V ++ W)) (hN : ∀ q ∈ W, ∀ r ∈ V, q.1 ≠ r.1) :
    ∃ g₁, Stand w p loose mean mg mb A base outer g₁ ∧ Sits g₁ h V ∧ (∀ b o, h.get? b = some o → b ∉ V.map (·.1) → g₁.get? b = some o) ∧
      ∀ g₁' h' V', KtsTurn (outer.filterMap (·.frame)) g₁ g₁' → Sits g₁' h' V' → ∃ g', KtsTurn (outer.filterMap (·.frame)) g g' ∧ Sits g' h' (V' ++ W) ∧ ∀ q ∈ W, ∀ r ∈ V', q.1 ≠ r.1 := by
  have VV : ∀ q ∈ V, h.get? q.1 = some q.2 ∧ g.get? q.1 = none := fun q hq => Vs.has q (List.mem_append_left _ hq)
  have nm : ∀ b o, g.get? b = some o → b ∉ V.map (·.1) := fun b o e q => by
    obtain ⟨r, hr, rfl⟩ := List.mem_map.mp q
    rw [(VV r hr).2] at e; cases e
  have st : g.StaysIn (hideAll h (V.map (·.1))) := fun b o e => hideAll_get _ (Vs.keep b o e) (nm b o e)
  have wg : ∀ q ∈ W, (hideAll h (V.map (·.1))).get? q.1 = some q.2 := fun q hq => hideAll_get _ (Vs.has q (List.mem_append_right _ hq)).1 fun z => by
    obtain ⟨r, hr, e⟩ := List.mem_map.mp z
    exact hN q hq r hr e.symm
  refine ⟨hideAll h (V.map (·.1)), ⟨⟨S.B.stack, fun b o e => st b o (S.B.stays b o e), S.B.frames.of_keeps fun b o e _ => ⟨o, st b o e, rfl⟩⟩, S.X.keeps (fun b o e => st b o e), S.T.keeps (fun b o e => st b o e), S.XB, S.TB, fun b hb => ?_⟩,
    ⟨fun b o e => of_hideAll _ e, Nat.le_of_eq (hideAll_size _ _), fun q hq => ⟨(VV q hq).1, hideAll_none _ (List.mem_map_of_mem hq)⟩⟩, fun b o e nm' => hideAll_get _ e nm', fun g₁' h' V' T' S' => ?_⟩
  · obtain ⟨o, es, n, ho, hd⟩ := S.D b hb
    exact ⟨o, es, n, st b o ho, hd⟩
  · obtain ⟨T₂, K₂⟩ := kts_turn_at (h := h') (fs := outer.filterMap (·.frame)) (g := g)
      (fun b hb => by
        obtain ⟨_, o, ho, _⟩ := S.B.frames.mem hb
        exact ⟨o, ho⟩)
      (fun b o e nm' => S'.keep _ _ (T'.other b o (st b o e) nm'))
      (fun b o e hm => by
        obtain ⟨sl, hs⟩ := T'.up (st b o e)
        exact ⟨sl, S'.keep _ _ hs⟩)
    have up : ∀ b, g₁'.get? b = none → g.get? b = none := fun b e => by
      cases q : g.get? b with
      | none => rfl
      | some o => obtain ⟨sl, hs⟩ := T'.up (st b o q); rw [hs] at e; cases e
    have nf : ∀ q ∈ W, q.1 ∉ outer.filterMap (·.frame) := fun q hq hm => by
      obtain ⟨_, o, ho, _⟩ := S.B.frames.mem hm
      rw [(Vs.has q (List.mem_append_right _ hq)).2] at ho; cases ho
    refine ⟨_, T₂, ⟨K₂, by rw [T₂.size]; exact Nat.le_trans Vs.size (Nat.le_trans (by rw [T'.size, hideAll_size]; exact Nat.le_refl _) S'.size), fun q hq => ?_⟩, fun q hq r hr z => ?_⟩
    · rcases List.mem_append.mp hq with hq | hq
      · exact ⟨(S'.has q hq).1, T₂.none_ _ (up _ (S'.has q hq).2)⟩
      · exact ⟨S'.keep _ _ (T'.other _ _ (wg q hq) (nf q hq)), T₂.none_ _ (Vs.has q (List.mem_append_right _ hq)).2⟩
    · have := (S'.has r hr).2
      rw [← z, T'.other _ _ (wg q hq) (nf q hq)] at this; cases this

theorem Sits.push (Vs : Sits g s.heap V) (o : Obj) (hf : o.isFreed = false := by rfl) : Sits g (s.heap.push o) (V ++ [(s.heap.objs.size, o)]) ∧ ∀ r ∈ V, s.heap.objs.size ≠ r.1 := by
  refine ⟨⟨fun b o' e => Heap.get?_push_of_some _ (Vs.keep b o' e), Nat.le_trans Vs.size (by simp [Heap.push]), fun q hq => ?_⟩, fun r hr z => ?_⟩
  · rcases List.mem_append.mp hq with hq | hq
    · exact ⟨Heap.get?_push_of_some _ (Vs.has q hq).1, (Vs.has q hq).2⟩
    · obtain rfl := List.mem_singleton.mp hq
      refine ⟨Heap.get?_push_size _ hf, ?_⟩
      cases z : g.get? s.heap.objs.size with
      | none => rfl
      | some o' => exact absurd (Heap.lt_size (Vs.keep _ _ z)) (Nat.lt_irrefl _)
  · have := Heap.lt_size (Vs.has r hr).1
    rw [← z] at this; exact absurd this (Nat.lt_irrefl _)

theorem Sits.upd {a : Addr} {o : Obj} {f : Obj → Obj} {h : Heap} (Vs : Sits g h (V ++ [(a, o)])) (hN : ∀ r ∈ V, a ≠ r.1) (hf : (f o).isFreed = false := by rfl) : Sits g (h.update a f) (V ++ [(a, f o)]) := by
  have ha := Vs.has (a, o) (List.mem_append_right _ (.head _))
  refine ⟨fun b o' e => (Heap.get?_update_other _ _ (fun z => ?_)).trans (Vs.keep b o' e), by simp only [update_size]; exact Vs.size, fun q hq => ?_⟩
  · rw [← z, ha.2] at e; cases e
  · rcases List.mem_append.mp hq with hq | hq
    · exact ⟨(Heap.get?_update_other _ _ (hN q hq)).trans (Vs.has q (List.mem_append_left _ hq)).1, (Vs.has q (List.mem_append_left _ hq)).2⟩
    · obtain rfl := List.mem_singleton.mp hq
      exact ⟨Heap.get?_update_self f ha.1 hf, ha.2⟩

theorem does_call {Q : Value → Shared → Prop} {W : List (Addr × Obj)} {args : List Value} (Cc : Does w need base f args V P) (S : Stand w p loose mean mg mb (kAt dp un gd outer) base outer g) (Vs : Sits g s.heap (V ++ W)) (hN : ∀ q ∈ W, ∀ r ∈ V, q.1 ≠ r.1)
    (hdp : dp + need < recursionLimit) (hu : un + 10 * need < cLine)
    (hQ : ∀ g' h' tk' v V', P (some v) V' → KtsTurn (outer.filterMap (·.frame)) g g' → Sits g' h' (V' ++ W) → (∀ q ∈ W, ∀ r ∈ V', q.1 ≠ r.1) → Q v { s with heap := h', toks := tk' })
    (hE : ∀ g' h' tk' e V', P none V' → KtsTurn (outer.filterMap (·.frame)) g g' → Sits g' h' (V' ++ W) → (∀ q ∈ W, ∀ r ∈ V', q.1 ≠ r.1) → (∃ ob, h'.get? e = some ob ∧ ob.cls = .type "StopIteration") → E (.ref e) { s with heap := h', toks := tk' }) :
    wpAny (model PG w) (kAt dp un gd outer) (call (.ref f) args) Q E s := by
  obtain ⟨g₁, S₁, V₁, _, back⟩ := reground S Vs hN
  refine wpAny_call ?_
  refine Cc S₁ V₁ hdp hu (fun g' h' tk' v V' hP T' S' => ?_) fun h' tk' e V' hP Z => ?_
  · obtain ⟨g₂, T₂, S₂, n₂⟩ := back g' h' V' T' S'
    exact hQ g₂ h' tk' v V' hP T₂ S₂ n₂
  · obtain ⟨ob, h1, h2⟩ := Z.there
    obtain ⟨g', T', S'⟩ := land S₁ Z
    obtain ⟨g₂, T₂, S₂, n₂⟩ := back g' h' V' T' S'
    exact hE g₂ h' tk' e V' hP T₂ S₂ n₂ ⟨ob, h1, h2⟩

theorem pyNext_does {Q : Option Value → Shared → Prop} {W : List (Addr × Obj)} (Cc : Does w need base f [.ref x] V P) (S : Stand w p loose mean mg mb (kAt dp un gd outer) base outer g) (Vs : Sits g s.heap (V ++ W)) (hN : ∀ q ∈ W, ∀ r ∈ V, q.1 ≠ r.1)
    (hx : (x, o) ∈ V) (hc : o.cls = .ref C) (hf : findIn (hd.heap_39 w.params) (.ref C) "__next__" = some (some (.ref f))) (hty : typeIn (hd.heap_39 w.params) (.ref f) = some (.type "function"))
    (hdp : dp + need < recursionLimit) (hu : un + 10 * need < cLine)
    (hQ : ∀ g' h' tk' v V', P (some v) V' → KtsTurn (outer.filterMap (·.frame)) g g' → Sits g' h' (V' ++ W) → (∀ q ∈ W, ∀ r ∈ V', q.1 ≠ r.1) → Q (some v) { s with heap := h', toks := tk' })
    (hE : ∀ g' h' tk' V', P none V' → KtsTurn (outer.filterMap (·.frame)) g g' → Sits g' h' (V' ++ W) → (∀ q ∈ W, ∀ r ∈ V', q.1 ≠ r.1) → Q none { s with heap := h', toks := tk' }) :
    wpAny (model PG w) (kAt dp un gd outer) (pyNext (.ref x)) Q E s := by
  refine pyNext_own S.X Vs.keep (Vs.has _ (List.mem_append_left _ hx)).1 hc hf hty ?_
  refine does_call Cc S Vs hN hdp hu hQ fun g' h' tk' e V' hP T' S' n' ⟨ob, h1, h2⟩ => ?_
  exact ⟨e, ob, rfl, h1, h2, hE g' h' tk' V' hP T' S' n'⟩

/-- list of an own thing that gives one item and then stops -/
theorem list_one {Q : Value → Shared → Prop} {V1 V2 V3 : List (Addr × Obj)} {v : Value} {f1 : Addr} (S : Stand w p loose mean mg mb (kAt dp un gd outer) base outer g) (Vs : Sits g s.heap V1)
    (m1 : (x, o) ∈ V1) (m2 : (x, o) ∈ V2) (hc : o.cls = .ref C) (hf1 : findIn (hd.heap_39 w.params) (.ref C) "__iter__" = some (some (.ref f1))) (hf : findIn (hd.heap_39 w.params) (.ref C) "__next__" = some (some (.ref f)))
    (ht1 : typeIn (hd.heap_39 w.params) (.ref f1) = some (.type "function")) (hty : typeIn (hd.heap_39 w.params) (.ref f) = some (.type "function"))
    (n1 : findIn (hd.heap_39 w.params) (.ref C) "__len__" = some none) (n2 : findIn (hd.heap_39 w.params) (.ref C) "__length_hint__" = some none)
    (Ci : Does w need base f1 [.ref x] V1 (fun r V' => r = some (.ref x) ∧ V' = V1)) (C1 : Does w need base f [.ref x] V1 (fun r V' => r = some v ∧ V' = V2)) (C2 : Does w need base f [.ref x] V2 (fun r V' => r = none ∧ V' = V3))
    (hdp : dp + need < recursionLimit) (hu : un + 10 * need + 10 < cLine)
    (hQ : ∀ g' h' tk' D c, KtsTurn (outer.filterMap (·.frame)) g g' → Sits g' h' (V3 ++ [(D, listOf #[v] c)]) → (∀ r ∈ V3, D ≠ r.1) → Q (.ref D) { s with heap := h', toks := tk' }) :
    wpAny (model PG w) (kAt dp un gd outer) (call (.type "list") [.ref x]) Q E s := by
  refine callType_codes (Q₁ := fun obj s₁ => obj = .ref s.heap.objs.size ∧ s₁ = { s with heap := s.heap.push { cls := .type "list", data := .seq #[] } }) F.called_list (F.typeCall_list_1 _) F.entry_list_init
    (code_list_new _ ⟨rfl, rfl⟩) fun obj s₁ h₁ => ?_
  obtain ⟨rfl, rfl⟩ := h₁
  obtain ⟨VP, nP⟩ := Vs.push { cls := .type "list", data := .seq #[] }
  have hS : (s.heap.push { cls := .type "list", data := .seq #[] }).get? s.heap.objs.size = some { cls := .type "list", data := .seq #[] } := Heap.get?_push_size _ rfl
  have hSx : s.heap.objs.size ≠ x := fun z => nP _ m1 z
  refine ⟨⟨_, hS, rfl⟩, F.args_list_init_2 _ _, ?_⟩
  show wpAny _ (kAt dp (un + 1 + 1) gd outer) (do let old ← Builtin.List.listItems (.ref s.heap.objs.size); Builtin.List.listUpdate (.ref s.heap.objs.size) (fun _ => #[]); letGo old.toList.reverse; Builtin.List.listExtendWith (.ref s.heap.objs.size) (.ref x) .none) _ _ _
  refine wpAny_bind ?_
  unfold Builtin.List.listItems
  refine wpAny_bind (wpAny_seqItems hS rfl (wpAny_pure ?_))
  show wpAny _ (kAt dp (un + 1 + 1) gd outer) (updateSeq s.heap.objs.size (fun _ => #[]) >>= fun _ => letGo (#[] : Array Value).toList.reverse >>= fun _ => Builtin.List.listExtendWith (.ref s.heap.objs.size) (.ref x) .none) _ _ _
  refine wpAny_bind (wpAny_updateSeq hS rfl ?_)
  have VU := VP.upd (f := Obj.mapSeq (fun _ => (#[] : Array Value))) nP
  refine wpAny_bind (wpAny_letGo ?_)
  have aN : ∀ (z : Obj), ∀ q ∈ [(s.heap.objs.size, z)], ∀ r ∈ V1, q.1 ≠ r.1 := fun z q hq r hr => by
    obtain rfl := List.mem_singleton.mp hq
    exact nP r hr
  unfold Builtin.List.listExtendWith
  have hx1 := (VU.has (x, o) (List.mem_append_left _ m1)).1
  refine wpAny_bind (wpAny_typeOf_ref hx1 ?_)
  rw [hc]
  have h1 : Builtin.List.listSameRef (.ref s.heap.objs.size) (.ref x) = false := by simp [Builtin.List.listSameRef, hSx]
  have h2 : (Value.ref C == Value.type "list") = false := rfl
  have h3 : (Value.ref C == Value.type "tuple") = false := rfl
  simp only [h1, h2, h3, Bool.or_false, Bool.false_eq_true, if_false]
  refine wpAny_bind (pyIter_own S.X VU.keep hx1 hc hf1 ht1 hf ?_)
  refine does_call Ci (S.around rfl) VU (aN _) hdp (by lia) (fun g' h' tk' v' V' hP T' S' n' => ?_) (fun g' h' tk' e V' hP _ _ _ _ => by cases hP.1)
  obtain ⟨hv, rfl⟩ := hP
  cases hv
  have S1 := (S.turn T').around (A₀ := kAt dp (un + 1 + 1) gd outer) rfl
  have hx2 := (S'.has (x, o) (List.mem_append_left _ m1)).1
  refine ⟨rfl, ⟨g', S1.X, S'.keep⟩, hx2, ?_⟩
  refine wpAny_bind (wpAny_holding (noHint_own S1.X S'.keep hx2 hc n1 n2 ?_))
  simp only [Bool.true_or, if_true]
  refine wpAny_bind (wpAny_bind (wpAny_rule ?_))
  refine wpAny_pure ?_
  refine wpAny_bind ?_
  show wpAny _ _ (updateSeq s.heap.objs.size (·.push .none) >>= fun _ => updateSeq s.heap.objs.size (·.pop)) _ _ _
  have sg : ∀ {V : List (Addr × Obj)} {z : Obj}, (∀ q ∈ [(s.heap.objs.size, z)], ∀ r ∈ V, q.1 ≠ r.1) → ∀ r ∈ V, s.heap.objs.size ≠ r.1 := fun h r hr => h _ (.head _) r hr
  have gs : ∀ {V : List (Addr × Obj)} {z : Obj}, (∀ r ∈ V, s.heap.objs.size ≠ r.1) → ∀ q ∈ [(s.heap.objs.size, z)], ∀ r ∈ V, q.1 ≠ r.1 := fun h q hq r hr => by
    obtain rfl := List.mem_singleton.mp hq
    exact h r hr
  refine wpAny_bind (wpAny_updateSeq (S'.has _ (List.mem_append_right _ (.head _))).1 rfl ?_)
  have V3' := S'.upd (f := Obj.mapSeq (·.push Value.none)) (sg n')
  refine wpAny_updateSeq (hz := by seq_fits) (V3'.has _ (List.mem_append_right _ (.head _))).1 rfl ?_
  have V4 := V3'.upd (f := Obj.mapSeq (·.pop)) (sg n')
  refine wpAny_pure ⟨plainId_quiet F.plain_extend_loop _, ?_⟩
  refine codeAny_builtin F.entry_extend_loop ?_
  rw [Around.under_plainId F.plain_extend_loop _]
  show wpAny _ (kAt dp (un + 1 + 1) gd outer) (pyNext (.ref x) >>= _) _ _ _
  refine wpAny_bind (pyNext_does C1 S1 V4 (gs (sg n')) m1 hc hf hty hdp (by lia) (fun g2 h2 tk2 v2 V2' hP T2 S2 n2 => ?_) fun _ _ _ _ hP => by cases hP.1)
  obtain ⟨hv, rfl⟩ := hP
  cases hv
  show wpAny _ _ (updateSeq s.heap.objs.size (·.push v) >>= _) _ _ _
  refine wpAny_bind ?_
  refine wpAny_updateSeq (hz := by seq_fits) (S2.has _ (List.mem_append_right _ (.head _))).1 rfl ?_
  have V5 := S2.upd (f := Obj.mapSeq (·.push v)) (sg n2)
  refine wpAny_pure ⟨plainId_quiet F.plain_extend_loop _, ?_⟩
  refine codeAny_builtin F.entry_extend_loop ?_
  rw [Around.under_plainId F.plain_extend_loop _]
  show wpAny _ (kAt dp (un + 1 + 1) gd outer) (pyNext (.ref x) >>= _) _ _ _
  have S3 := (S1.turn T2)
  refine wpAny_bind (pyNext_does C2 S3 V5 (gs (sg n2)) m2 hc hf hty hdp (by lia) (fun _ _ _ _ _ hP => by cases hP.1) fun g3 h3 tk3 V3'' hP T3 S4 n4 => ?_)
  obtain ⟨_, rfl⟩ := hP
  exact wpAny_pure ⟨rfl, hQ g3 h3 tk3 _ _ (T'.trans (T2.trans T3)) S4 (sg n4)⟩
end
end Mine
end

-- WC
section
open PySem PySem.W PySem.Calls PyProof.Rows
set_option maxRecDepth 100000
namespace Mine
abbrev cntObj (d : Addr) (i : Int) (t t' : Tok) : Obj := { cls := .ref 222, dict := some d, data := .plain, slots := #[some (.int i t), some (.bool true), some (.int 1 t')] }
section
variable {w : World} {base : Heap}
set_option maxHeartbeats 8000000 in
theorem cnt_next {c d : Addr} {i : Int} {t t' : Tok} (n1 : @Ne Nat c d) :
    Does w 8 base 211 [.ref c] [(c, cntObj d i t t'), (d, dictOf [] 0)] (fun r V' => r = some (.int i t) ∧ ∃ t2, V' = [(c, cntObj d (i + 1) t2 t'), (d, dictOf [] 0)]) := by
  intro p loose mean mg mb dp un gd outer g s R S V hd hu hq he
  obtain ⟨B, X, T, XB, TB, KD⟩ := S
  k_lift B
  revert X; unfold PG; k_fill; intro X
  (k_dflt (refine' enter ?zSz ?zXz ?zTz ?zk6z ?zk7z ?zk8z ?zk9z ?zkBz ?_ ?zc2z ?zc3z ?zc4z ?zc5z; (case zSz => assumption); (case zXz => assumption); (case zTz => assumption); (case zk6z => k_is); (case zk7z => k_is); (case zk8z => k_room); (case zk9z => first | exact BindsTo.of_eq rfl | exact binds_K (by k_in) rfl (by k_is) rfl rfl rfl | (refine' kp_binds ?zkxz ?zkez; (case zkxz => exact Frag.In.keeps (by assumption) (fun b o e => Sits.keep (by assumption) b o e)); (case zkez => exact fun _ => rfl))); (case zkBz => exact locs rfl); (case zc2z => exact rfl); (case zc3z => exact rfl); (case zc4z => exact rfl); (case zc5z => decide); k_whole; intro L' h' F' N'; (try dsimp only); (try k_fold)))
  (repeat' (first | (k_unfold; (try dsimp only)) | (k_end; kc_close) | (with_reducible ((k_here; (try k_gentoks); (with_reducible refine wpAny_execs_cons ?_); (try dsimp only); (try k_fold)))) | walk1 | (dsimp only; walk1) | (leave1; (try dsimp only))))
  exact hq _ _ _ _ _ ⟨rfl, _, rfl⟩ .refl (Sits.of_fr (by k_asm) (cb_drop (by assumption) (by kcj_all)))
set_option maxHeartbeats 8000000 in
theorem gb_iter {x : Addr} {V : List (Addr × Obj)} : Does w 8 base 106 [.ref x] V (fun r V' => r = some (.ref x) ∧ V' = V) := by
  intro p loose mean mg mb dp un gd outer g s R S V hd hu hq he
  obtain ⟨B, X, T, XB, TB, KD⟩ := S
  revert X; unfold PG; k_fill; intro X
  (k_dflt (refine' enter ?zSz ?zXz ?zTz ?zk6z ?zk7z ?zk8z ?zk9z ?zkBz ?_ ?zc2z ?zc3z ?zc4z ?zc5z; (case zSz => assumption); (case zXz => assumption); (case zTz => assumption); (case zk6z => k_is); (case zk7z => k_is); (case zk8z => k_room); (case zk9z => first | exact BindsTo.of_eq rfl | exact binds_K (by k_in) rfl (by k_is) rfl rfl rfl | (refine' kp_binds ?zkxz ?zkez; (case zkxz => exact Frag.In.keeps (by assumption) (fun b o e => Sits.keep (by assumption) b o e)); (case zkez => exact fun _ => rfl))); (case zkBz => exact locs rfl); (case zc2z => exact rfl); (case zc3z => exact rfl); (case zc4z => exact rfl); (case zc5z => decide); k_whole; intro L' h' F' N'; (try dsimp only); (try k_fold)))
  (repeat' (first | (k_unfold; (try dsimp only)) | (k_end; kc_close) | (with_reducible ((k_here; (try k_gentoks); (with_reducible refine wpAny_execs_cons ?_); (try dsimp only); (try k_fold)))) | walk1 | (dsimp only; walk1) | (leave1; (try dsimp only))))
  exact hq _ _ _ _ _ ⟨rfl, rfl⟩ .refl (Sits.of_fr (by k_asm) (by assumption))
set_option maxHeartbeats 8000000 in
theorem gr_iter {x : Addr} {V : List (Addr × Obj)} : Does w 8 base 158 [.ref x] V (fun r V' => r = some (.ref x) ∧ V' = V) := by
  intro p loose mean mg mb dp un gd outer g s R S V hd hu hq he
  obtain ⟨B, X, T, XB, TB, KD⟩ := S
  revert X; unfold PG; k_fill; intro X
  (k_dflt (refine' enter ?zSz ?zXz ?zTz ?zk6z ?zk7z ?zk8z ?zk9z ?zkBz ?_ ?zc2z ?zc3z ?zc4z ?zc5z; (case zSz => assumption); (case zXz => assumption); (case zTz => assumption); (case zk6z => k_is); (case zk7z => k_is); (case zk8z => k_room); (case zk9z => first | exact BindsTo.of_eq rfl | exact binds_K (by k_in) rfl (by k_is) rfl rfl rfl | (refine' kp_binds ?zkxz ?zkez; (case zkxz => exact Frag.In.keeps (by assumption) (fun b o e => Sits.keep (by assumption) b o e)); (case zkez => exact fun _ => rfl))); (case zkBz => exact locs rfl); (case zc2z => exact rfl); (case zc3z => exact rfl); (case zc4z => exact rfl); (case zc5z => decide); k_whole; intro L' h' F' N'; (try dsimp only); (try k_fold)))
  (repeat' (first | (k_unfold; (try dsimp only)) | (k_end; kc_close) | (with_reducible ((k_here; (try k_gentoks); (with_reducible refine wpAny_execs_cons ?_); (try dsimp only); (try k_fold)))) | walk1 | (dsimp only; walk1) | (leave1; (try dsimp only))))
  exact hq _ _ _ _ _ ⟨rfl, rfl⟩ .refl (Sits.of_fr (by k_asm) (by assumption))
set_option maxHeartbeats 8000000 in
theorem cnt_iter {x : Addr} {V : List (Addr × Obj)} : Does w 8 base 204 [.ref x] V (fun r V' => r = some (.ref x) ∧ V' = V) := by
  intro p loose mean mg mb dp un gd outer g s R S V hd hu hq he
  obtain ⟨B, X, T, XB, TB, KD⟩ := S
  revert X; unfold PG; k_fill; intro X
  (k_dflt (refine' enter ?zSz ?zXz ?zTz ?zk6z ?zk7z ?zk8z ?zk9z ?zkBz ?_ ?zc2z ?zc3z ?zc4z ?zc5z; (case zSz => assumption); (case zXz => assumption); (case zTz => assumption); (case zk6z => k_is); (case zk7z => k_is); (case zk8z => k_room); (case zk9z => first | exact BindsTo.of_eq rfl | exact binds_K (by k_in) rfl (by k_is) rfl rfl rfl | (refine' kp_binds ?zkxz ?zkez; (case zkxz => exact Frag.In.keeps (by assumption) (fun b o e => Sits.keep (by assumption) b o e)); (case zkez => exact fun _ => rfl))); (case zkBz => exact locs rfl); (case zc2z => exact rfl); (case zc3z => exact rfl); (case zc4z => exact rfl); (case zc5z => decide); k_whole; intro L' h' F' N'; (try dsimp only); (try k_fold)))
  (repeat' (first | (k_unfold; (try dsimp only)) | (k_end; kc_close) | (with_reducible ((k_here; (try k_gentoks); (with_reducible refine wpAny_execs_cons ?_); (try dsimp only); (try k_fold)))) | walk1 | (dsimp only; walk1) | (leave1; (try dsimp only))))
  exact hq _ _ _ _ _ ⟨rfl, rfl⟩ .refl (Sits.of_fr (by k_asm) (by assumption))
/-- what the classes hold, looked up -/
theorem look_gb (w : World) : findIn (hd.heap_39 w.params) (.ref 124) "__iter__" = some (some (.ref 106)) ∧ findIn (hd.heap_39 w.params) (.ref 124) "__next__" = some (some (.ref 120)) := ⟨by rfl, by rfl⟩
end
end Mine
end

-- ZP
section
open PySem PySem.W PySem.Calls PyProof.Rows
set_option maxRecDepth 100000
namespace Mine
/-- a ledger whose places stand apart -/
structure Led (g h : Heap) (V : List (Addr × Obj)) : Prop where
  S : Sits g h V
  nd : (V.map (·.1)).Nodup
section
variable {w : World} {p : Program} {loose : List Str} {mean : ExcName → Option Value} {mg mb : Str → Option Value} {dp un : Nat} {gd : Option (List Code)} {outer : List Env} {base g h h' : Heap} {s : Shared} {V V1 V2 : List (Addr × Obj)} {P : Option Value → List (Addr × Obj) → Prop} {need : Nat} {x C f a : Addr} {o o' : Obj} {E : Value → Shared → Prop}
theorem Led.set (Vl : Led g h (V1 ++ (a, o) :: V2)) (ho : h'.get? a = some o') (sb : Heap.SameBut a h h') : Led g h' (V1 ++ (a, o') :: V2) := by
  have nd := Vl.nd
  have ha := Vl.S.has (a, o) (List.mem_append_right _ (.head _))
  have ap : ∀ q ∈ V1 ++ V2, q.1 ≠ a := fun q hq z => by
    simp only [List.map_append, List.map_cons, List.nodup_append, List.nodup_cons] at nd
    rcases List.mem_append.mp hq with hq | hq
    · exact nd.2.2 q.1 (List.mem_map_of_mem hq) a (.head _) z
    · exact nd.2.1.1 (z ▸ List.mem_map_of_mem hq)
  refine ⟨⟨fun b o' e => (sb.2 b (fun z => ?_)).trans (Vl.S.keep b o' e), by rw [sb.1]; exact Vl.S.size, fun q hq => ?_⟩, by simpa using nd⟩
  · rw [z, ha.2] at e; cases e
  · rcases List.mem_append.mp hq with hq | hq
    · have := Vl.S.has q (List.mem_append_left _ hq)
      exact ⟨(sb.2 _ (ap q (List.mem_append_left _ hq))).trans this.1, this.2⟩
    · rcases List.mem_cons.mp hq with rfl | hq
      · exact ⟨ho, ha.2⟩
      · have := Vl.S.has q (List.mem_append_right _ (.tail _ hq))
        exact ⟨(sb.2 _ (ap q (List.mem_append_right _ hq))).trans this.1, this.2⟩
theorem Led.push (Vl : Led g h V) (o : Obj) (hf : o.isFreed = false := by rfl) : Led g (h.push o) ((h.objs.size, o) :: V) := by
  have out : ∀ q ∈ V, q.1 < h.objs.size := fun q hq => Heap.lt_size (Vl.S.has q hq).1
  refine ⟨⟨fun b o' e => Heap.get?_push_of_some _ (Vl.S.keep b o' e), Nat.le_trans Vl.S.size (by simp [Heap.push]), fun q hq => ?_⟩, ?_⟩
  · rcases List.mem_cons.mp hq with rfl | hq
    · refine ⟨Heap.get?_push_size _ hf, ?_⟩
      cases z : g.get? h.objs.size with
      | none => rfl
      | some o' => exact absurd (Heap.lt_size (Vl.S.keep _ _ z)) (Nat.lt_irrefl _)
    · exact ⟨Heap.get?_push_of_some _ (Vl.S.has q hq).1, (Vl.S.has q hq).2⟩
  · simp only [List.map_cons, List.nodup_cons]
    exact ⟨fun hm => by obtain ⟨q, hq, e⟩ := List.mem_map.mp hm; exact absurd (e ▸ out q hq) (Nat.lt_irrefl _), Vl.nd⟩
theorem Led.get (Vl : Led g h V) (hm : (a, o) ∈ V) : h.get? a = some o := (Vl.S.has _ hm).1
theorem Led.apart (Vl : Led g h (V1 ++ V2)) : ∀ q ∈ V2, ∀ r ∈ V1, q.1 ≠ r.1 := fun q hq r hr z => by
  have nd := Vl.nd
  rw [List.map_append, List.nodup_append] at nd
  exact nd.2.2 r.1 (List.mem_map_of_mem hr) q.1 (List.mem_map_of_mem hq) z.symm
theorem Led.ext (Vl : Led g h V) (k : ∀ b o, h.get? b = some o → h'.get? b = some o) (z : h.objs.size ≤ h'.objs.size) : Led g h' V :=
  ⟨⟨fun b o e => k b o (Vl.S.keep b o e), Nat.le_trans Vl.S.size z, fun q hq => ⟨k _ _ (Vl.S.has q hq).1, (Vl.S.has q hq).2⟩⟩, Vl.nd⟩

theorem Led.right (Vl : Led g h (V1 ++ V2)) : Led g h V2 := ⟨Vl.S.sub fun q hq => List.mem_append_right _ hq, by
  have nd := Vl.nd
  rw [List.map_append, List.nodup_append] at nd
  exact nd.2.1⟩

abbrev zipObj (f0 : Value) (f1 : Bool) (TI TO : Addr) : Obj := { cls := .type "zip", dict := none, data := .fields #[f0, .bool f1, .bool false, .ref TI, .ref TO], slots := #[] }
abbrev pairObj (a b : Value) : Obj := { cls := .type "tuple", data := .seq #[a, b] }
abbrev ZV (l z TI TO i1 c d : Addr) (k : Nat) (tc ts : Tok) (f0 : Value) (f1 : Bool) (a b : Value) : List (Addr × Obj) :=
  [(c, cntObj d (k : Int) tc ts), (d, dictOf [] 0), (z, zipObj f0 f1 TI TO), (TO, pairObj a b), (i1, litObj l (k : Int))]

theorem look_cnt (w : World) : findIn (hd.heap_39 w.params) (.ref 222) "__iter__" = some (some (.ref 204)) ∧ findIn (hd.heap_39 w.params) (.ref 222) "__next__" = some (some (.ref 211)) ∧ typeIn (hd.heap_39 w.params) (.ref 204) = some (.type "function") ∧ typeIn (hd.heap_39 w.params) (.ref 211) = some (.type "function") := ⟨by rfl, by rfl, by rfl, by rfl⟩

theorem wpAny_alive {M : Model} {A : Around} {Q : Option Obj → Shared → Prop} (h : Q (s.heap.get? a) s) : wpAny M A (loadIfAlive a) Q E s := fun _ _ _ => h

theorem nextOf_lit {prog : Program} {A : Around} {l i1 : Addr} {k : Nat} {items : Array Value} {v : Value} {Q : Value → Shared → Prop} (Vl : Led g s.heap (V1 ++ (i1, litObj l (k : Int)) :: V2)) (hl : s.heap.IsList l items) (hv : items[k]? = some v)
    (hQ : ∀ h', Led g h' (V1 ++ (i1, litObj l ((k + 1 : Nat) : Int)) :: V2) → Q v { s with heap := h' }) : wpAny (model prog w) A (Builtin.SmallTypes.nextOf (.ref i1)) Q E s := by
  unfold Builtin.SmallTypes.nextOf
  refine wpAny_bind (lit_special (Vl.get (List.mem_append_right _ (.head _))) hl hv fun h' e sb => ?_)
  exact wpAny_pure (hQ h' (Vl.set e sb))

theorem nextOf_cnt {c d : Addr} {k : Nat} {tc ts : Tok} {Q : Value → Shared → Prop} {W : List (Addr × Obj)} (S : Stand w p loose mean mg mb (kAt dp un gd outer) base outer g) (Vl : Led g s.heap ([(c, cntObj d (k : Int) tc ts), (d, dictOf [] 0)] ++ W)) (hdp : dp + 8 < recursionLimit) (hu : un + 80 < cLine)
    (hQ : ∀ g' h' tk' tc', KtsTurn (outer.filterMap (·.frame)) g g' → Led g' h' ([(c, cntObj d ((k + 1 : Nat) : Int) tc' ts), (d, dictOf [] 0)] ++ W) → Q (.int (k : Int) tc) { s with heap := h', toks := tk' }) :
    wpAny (model PG w) (kAt dp un gd outer) (Builtin.SmallTypes.nextOf (.ref c)) Q E s := by
  obtain ⟨l1, l2, l3, l4⟩ := look_cnt w
  have n1 : @Ne Nat c d := by
    have := Vl.nd
    simp only [List.map_append, List.map_cons, List.cons_append, List.nodup_cons] at this
    exact fun z => this.1 (z ▸ .head _)
  unfold Builtin.SmallTypes.nextOf
  refine wpAny_bind (callSpecial_own S.X Vl.S.keep (Vl.get (List.mem_append_left _ (.head _))) rfl l2 l4 ?_)
  refine does_call (cnt_next n1) S Vl.S Vl.apart hdp (by lia) (fun g' h' tk' v' V' hP T' S' n' => ?_) (fun _ _ _ _ _ hP => by cases hP.1)
  obtain ⟨hv, tc', rfl⟩ := hP
  cases hv
  exact wpAny_pure (hQ g' h' tk' tc' T' ⟨S', Vl.nd⟩)

/-- the zip's next, the second and later items -/
theorem zip_later {Q : Value → Shared → Prop} {W : List (Addr × Obj)} {l z TI TO i1 c d T0 : Addr} {k : Nat} {tc ts : Tok} {f1 : Bool} {va vb v : Value} {oT : Obj} {items : Array Value} (S : Stand w p loose mean mg mb (kAt dp un gd outer) base outer g)
    (Vl : Led g s.heap (ZV l z TI TO i1 c d k tc ts (.int (T0 : Nat) 0) f1 va vb ++ W)) (mTI : (TI, pairObj (.ref i1) (.ref c)) ∈ W) {n : Nat} (ml : (l, listOf items n) ∈ W) (mT : (T0, oT) ∈ W) (hv : items[k]? = some v)
    (hdp : dp + 8 < recursionLimit) (hu : un + 80 < cLine)
    (hQ : ∀ g' h' tk' T tc', KtsTurn (outer.filterMap (·.frame)) g g' → Led g' h' ((T, pairObj v (.int k tc)) :: ZV l z TI TO i1 c d (k + 1) tc' ts (.int (T0 : Nat) 0) true va vb ++ W) → Q (.ref T) { s with heap := h', toks := tk' }) :
    wpAny (model PG w) (kAt dp un gd outer) (Builtin.«zip.__next__» ⟨[.ref z], []⟩) (fun fin s' => ∃ v, fin = .done (.ret v) ∧ Q v s') E s := by
  have hz := Vl.get (a := z) (List.mem_append_left _ (.tail _ (.tail _ (.head _))))
  have hTI := Vl.get (List.mem_append_right _ mTI)
  show wpAny _ _ (field (.ref z) 2 >>= _) _ _ _
  refine wpAny_bind (wpAny_field hz rfl (x := .bool false) rfl ?_)
  show wpAny _ _ (field (.ref z) 3 >>= _) _ _ _
  refine wpAny_bind (wpAny_field hz rfl (x := .ref TI) rfl ?_)
  refine wpAny_bind (wpAny_seqItems hTI rfl ?_)
  show wpAny _ _ (Builtin.SmallTypes.ownedTupleIsFree (.ref z) >>= _) _ _ _
  refine wpAny_bind ?_
  unfold Builtin.SmallTypes.ownedTupleIsFree
  refine wpAny_bind (wpAny_field hz rfl (x := .int (T0 : Nat) 0) rfl ?_)
  dsimp only
  have hT := Vl.get (List.mem_append_right _ mT)
  refine wpAny_bind (wpAny_alive ?_)
  rw [show ((T0 : Nat) : Int).toNat = T0 from Int.toNat_natCast T0, hT]
  simp only [Option.isNone_some, Bool.false_eq_true, if_false]
  refine wpAny_bind (wpAny_field hz rfl (x := .bool f1) rfl ?_)
  -- the mark that the owned tuple is out
  have mark : ∀ {Q' : Bool → Shared → Prop}, (∀ h', Led g h' (ZV l z TI TO i1 c d k tc ts (.int (T0 : Nat) 0) true va vb ++ W) → Q' false { s with heap := h' }) →
      wpAny (model PG w) (kAt dp un gd outer) (if (Value.bool f1 != Value.bool true) = true then (do setField (.ref z) 1 (.bool true); pure false) else pure false) Q' E s := by
    intro Q' h
    cases f1 with
    | true => exact wpAny_ite_split (fun z => absurd z (by decide)) fun _ => wpAny_pure (h s.heap Vl)
    | false =>
      refine wpAny_ite_split (fun _ => ?_) fun z => absurd z (by decide)
      refine wpAny_bind (wpAny_setField_rec hz (by simp) fun h₁ hz₁ hs₁ => wpAny_pure (h h₁ ?_))
      exact (Led.set (V1 := [_, _]) Vl hz₁ hs₁ :)
  refine mark fun h₁ V₁ => ?_
  simp only [Bool.false_eq_true, if_false]
  refine wpAny_bind ?_
  simp only [← Array.forIn_toList, List.forIn_cons, List.forIn_nil]
  refine wpAny_bind (wpAny_bind (wpAny_holding ?_))
  show wpAny _ _ (Builtin.SmallTypes.nextOf (.ref i1) >>= _) _ _ _
  refine wpAny_bind (nextOf_lit (V1 := [_, _, _, _]) V₁ ⟨_, V₁.get (List.mem_append_right _ ml), rfl, n, rfl⟩ hv fun h₂ V₂ => ?_)
  refine wpAny_pure (wpAny_pure ?_)
  dsimp only
  refine wpAny_bind (wpAny_bind (wpAny_holding ?_))
  show wpAny _ _ (Builtin.SmallTypes.nextOf (.ref c) >>= _) _ _ _
  refine wpAny_bind (nextOf_cnt (s := { s with heap := h₂ }) S V₂ hdp hu fun g' h₃ tk' tc' T' V₃ => ?_)
  refine wpAny_pure (wpAny_pure (wpAny_pure ?_))
  dsimp only
  refine wpAny_bind (wpAny_newTuple ?_ (hsz := by show 2 ≤ sizeLine; decide))
  exact wpAny_pure ⟨_, rfl, hQ g' _ tk' _ tc' T' (V₃.push _)⟩

theorem updateSeq_led {prog : Program} {A : Around} {T : Addr} {va vb x : Value} {k : Nat} {Q : Unit → Shared → Prop} (Vl : Led g s.heap (V1 ++ (T, pairObj va vb) :: V2))
    (hQ : ∀ h', Led g h' (V1 ++ (T, { cls := .type "tuple", data := .seq ((#[va, vb] : Array Value).setIfInBounds k x) }) :: V2) → Q () { s with heap := h' }) :
    wpAny (model prog w) A (updateSeq T (·.setIfInBounds k x)) Q E s :=
  wpAny_updateSeq_pair (Vl.get (List.mem_append_right _ (.head _))) fun _ e sb => hQ _ (Vl.set e sb)

/-- the zip's next, the first item -/
theorem zip_first {Q : Value → Shared → Prop} {W : List (Addr × Obj)} {l z TI TO i1 c d : Addr} {k : Nat} {tc ts : Tok} {va vb v : Value} {items : Array Value} {n : Nat} (S : Stand w p loose mean mg mb (kAt dp un gd outer) base outer g)
    (Vl : Led g s.heap (ZV l z TI TO i1 c d k tc ts .none false va vb ++ W)) (mTI : (TI, pairObj (.ref i1) (.ref c)) ∈ W) (ml : (l, listOf items n) ∈ W) (hv : items[k]? = some v)
    (hdp : dp + 8 < recursionLimit) (hu : un + 80 < cLine)
    (hQ : ∀ g' h' tk' T tc', KtsTurn (outer.filterMap (·.frame)) g g' → Led g' h' ((T, pairObj v (.int k tc)) :: ZV l z TI TO i1 c d (k + 1) tc' ts (.int (T : Nat) 0) false v (.int k tc) ++ W) → Q (.ref T) { s with heap := h', toks := tk' }) :
    wpAny (model PG w) (kAt dp un gd outer) (Builtin.«zip.__next__» ⟨[.ref z], []⟩) (fun fin s' => ∃ v, fin = .done (.ret v) ∧ Q v s') E s := by
  have hz := Vl.get (a := z) (List.mem_append_left _ (.tail _ (.tail _ (.head _))))
  have hTI := Vl.get (List.mem_append_right _ mTI)
  show wpAny _ _ (field (.ref z) 2 >>= _) _ _ _
  refine wpAny_bind (wpAny_field hz rfl (x := .bool false) rfl ?_)
  show wpAny _ _ (field (.ref z) 3 >>= _) _ _ _
  refine wpAny_bind (wpAny_field hz rfl (x := .ref TI) rfl ?_)
  refine wpAny_bind (wpAny_seqItems hTI rfl ?_)
  show wpAny _ _ (Builtin.SmallTypes.ownedTupleIsFree (.ref z) >>= _) _ _ _
  refine wpAny_bind ?_
  unfold Builtin.SmallTypes.ownedTupleIsFree
  refine wpAny_bind (wpAny_field hz rfl (x := .none) rfl (wpAny_pure ?_))
  simp only [if_true]
  refine wpAny_bind (wpAny_rule ?_)
  refine wpAny_bind (wpAny_field hz rfl (x := .ref TO) rfl ?_)
  refine wpAny_bind (wpAny_setField_rec hz (by simp) fun h₁ hz₁ hs₁ => ?_)
  have V₁ : Led g h₁ (ZV l z TI TO i1 c d k tc ts .ellipsis false va vb ++ W) := (Led.set (V1 := [_, _]) Vl hz₁ hs₁ :)
  refine wpAny_bind ?_
  simp only [List.zipIdx_cons, List.zipIdx_nil, List.forIn_cons, List.forIn_nil]
  refine wpAny_bind (wpAny_bind (wpAny_onRaise ?_))
  show wpAny _ _ (Builtin.SmallTypes.nextOf (.ref i1) >>= _) _ _ _
  refine wpAny_bind (nextOf_lit (s := { s with heap := h₁ }) (V1 := [_, _, _, _]) V₁ ⟨_, V₁.get (List.mem_append_right _ ml), rfl, n, rfl⟩ hv fun h₂ V₂ => wpAny_pure ?_)
  have hTO₂ := V₂.get (a := TO) (List.mem_append_left _ (.tail _ (.tail _ (.tail _ (.head _)))))
  refine wpAny_bind (wpAny_seqItems hTO₂ rfl ?_)
  refine wpAny_bind (updateSeq_led (s := { s with heap := h₂ }) (V1 := [_, _, _]) V₂ fun h₃ V₃ => ?_)
  refine wpAny_bind (wpAny_letGo (wpAny_pure ?_))
  have V₃' : Led g h₃ (ZV l z TI TO i1 c d k tc ts .ellipsis false v vb ++ W |>.set 4 (i1, litObj l ((k + 1 : Nat) : Int))) := V₃
  refine wpAny_bind (wpAny_bind (wpAny_onRaise ?_))
  show wpAny _ _ (Builtin.SmallTypes.nextOf (.ref c) >>= _) _ _ _
  refine wpAny_bind (nextOf_cnt (s := { s with heap := h₃ }) S V₃' hdp hu fun g' h₄ tk' tc' T' V₄ => wpAny_pure ?_)
  have hTO₄ := V₄.get (a := TO) (o := pairObj v vb) (.tail _ (.tail _ (.tail _ (.head _))))
  refine wpAny_bind (wpAny_seqItems hTO₄ rfl ?_)
  refine wpAny_bind (updateSeq_led (s := { s with heap := h₄, toks := tk' }) (T := TO) (va := v) (vb := vb) (V1 := [_, _, _]) V₄ fun h₅ V₅ => ?_)
  refine wpAny_bind (wpAny_letGo (wpAny_pure (wpAny_pure ?_)))
  have V₅' : Led g' h₅ (ZV l z TI TO i1 c d (k + 1) tc' ts .ellipsis false v (.int k tc) ++ W) := V₅
  have hTO₅ := V₅'.get (a := TO) (List.mem_append_left _ (.tail _ (.tail _ (.tail _ (.head _)))))
  refine wpAny_bind (wpAny_seqItems hTO₅ rfl ?_)
  refine wpAny_bind (wpAny_newTuple ?_ (hsz := by show 2 ≤ sizeLine; decide))
  have V₆ := V₅'.push (pairObj v (.int k tc))
  show wpAny _ _ (Builtin.SmallTypes.ownedTupleHandOut (.ref z) (.ref h₅.objs.size) >>= _) _ _ _
  refine wpAny_bind ?_
  unfold Builtin.SmallTypes.ownedTupleHandOut
  have hz₆ := V₆.get (a := z) (.tail _ (.tail _ (.tail _ (.head _))))
  refine wpAny_bind (wpAny_setField_rec (s := { s with heap := h₅.push (pairObj v (.int k tc)), toks := tk' }) hz₆ (by simp) fun h₇ hz₇ hs₇ => ?_)
  have V₇ : Led g' h₇ ((h₅.objs.size, pairObj v (.int k tc)) :: ZV l z TI TO i1 c d (k + 1) tc' ts (.int (h₅.objs.size : Nat) 0) false v (.int k tc) ++ W) := (Led.set (V1 := [_, _, _]) V₆ hz₇ hs₇ :)
  refine wpAny_setField_rec (s := { s with heap := h₇, toks := tk' }) hz₇ (by simp) fun h₈ hz₈ hs₈ => ?_
  have V₈ : Led g' h₈ ((h₅.objs.size, pairObj v (.int k tc)) :: ZV l z TI TO i1 c d (k + 1) tc' ts (.int (h₅.objs.size : Nat) 0) false v (.int k tc) ++ W) := (Led.set (V1 := [_, _, _]) V₇ hz₈ hs₈ :)
  exact wpAny_pure ⟨_, rfl, hQ g' _ tk' _ tc' T' V₈⟩

/-- the zip's next, past the last item -/
theorem zip_over {W : List (Addr × Obj)} {l z TI TO i1 c d T0 : Addr} {k : Nat} {tc ts : Tok} {f1 : Bool} {va vb : Value} {oT : Obj} {items : Array Value} {n : Nat} {Q : Fin → Shared → Prop}
    (Vl : Led g s.heap (ZV l z TI TO i1 c d k tc ts (.int (T0 : Nat) 0) f1 va vb ++ W)) (mTI : (TI, pairObj (.ref i1) (.ref c)) ∈ W) (ml : (l, listOf items n) ∈ W) (mT : (T0, oT) ∈ W) (hv : items[k]? = none)
    (hE : ∀ h' e, Led g h' W → (∃ o, h'.get? e = some o ∧ o.cls = .type "StopIteration") → E (.ref e) { s with heap := h' }) :
    wpAny (model PG w) (kAt dp un gd outer) (Builtin.«zip.__next__» ⟨[.ref z], []⟩) Q E s := by
  have hz := Vl.get (a := z) (List.mem_append_left _ (.tail _ (.tail _ (.head _))))
  have hTI := Vl.get (List.mem_append_right _ mTI)
  show wpAny _ _ (field (.ref z) 2 >>= _) _ _ _
  refine wpAny_bind (wpAny_field hz rfl (x := .bool false) rfl ?_)
  show wpAny _ _ (field (.ref z) 3 >>= _) _ _ _
  refine wpAny_bind (wpAny_field hz rfl (x := .ref TI) rfl ?_)
  refine wpAny_bind (wpAny_seqItems hTI rfl ?_)
  show wpAny _ _ (Builtin.SmallTypes.ownedTupleIsFree (.ref z) >>= _) _ _ _
  refine wpAny_bind ?_
  unfold Builtin.SmallTypes.ownedTupleIsFree
  refine wpAny_bind (wpAny_field hz rfl (x := .int (T0 : Nat) 0) rfl ?_)
  dsimp only
  have hT := Vl.get (List.mem_append_right _ mT)
  refine wpAny_bind (wpAny_alive ?_)
  rw [show ((T0 : Nat) : Int).toNat = T0 from Int.toNat_natCast T0, hT]
  simp only [Option.isNone_some, Bool.false_eq_true, if_false]
  refine wpAny_bind (wpAny_field hz rfl (x := .bool f1) rfl ?_)
  have mark : ∀ {Q' : Bool → Shared → Prop}, (∀ h', Led g h' (ZV l z TI TO i1 c d k tc ts (.int (T0 : Nat) 0) true va vb ++ W) → Q' false { s with heap := h' }) →
      wpAny (model PG w) (kAt dp un gd outer) (if (Value.bool f1 != Value.bool true) = true then (do setField (.ref z) 1 (.bool true); pure false) else pure false) Q' E s := by
    intro Q' h
    cases f1 with
    | true => exact wpAny_ite_split (fun z => absurd z (by decide)) fun _ => wpAny_pure (h s.heap Vl)
    | false =>
      refine wpAny_ite_split (fun _ => ?_) fun z => absurd z (by decide)
      refine wpAny_bind (wpAny_setField_rec hz (by simp) fun h₁ hz₁ hs₁ => wpAny_pure (h h₁ ?_))
      exact (Led.set (V1 := [_, _]) Vl hz₁ hs₁ :)
  refine mark fun h₁ V₁ => ?_
  simp only [Bool.false_eq_true, if_false]
  refine wpAny_bind ?_
  simp only [← Array.forIn_toList, List.forIn_cons, List.forIn_nil]
  refine wpAny_bind (wpAny_bind (wpAny_holding ?_))
  show wpAny _ _ (Builtin.SmallTypes.nextOf (.ref i1) >>= _) _ _ _
  refine wpAny_bind ?_
  unfold Builtin.SmallTypes.nextOf
  refine wpAny_bind (wpAny_mono (wpAny_grows (lit_special_end (s := { s with heap := h₁ }) (Q := fun _ _ => False)
    (E := fun e s' => ∃ a h₂, e = .ref a ∧ h₂.get? i1 = some { cls := .type "list_iterator", data := .fields #[.none, .int k 0] } ∧ Heap.SameBut i1 h₁ h₂ ∧ Heap.MadeExc h₂ s'.heap a "StopIteration" [] ∧ s' = { s with heap := s'.heap })
    rfl (V₁.get (List.mem_append_left _ (.tail _ (.tail _ (.tail _ (.tail _ (.head _))))))) ⟨_, V₁.get (List.mem_append_right _ ml), rfl, n, rfl⟩ hv fun h₂ h' e e1 sb mx => ⟨e, h₂, rfl, e1, sb, mx, rfl⟩))
    (fun _ _ q => q.2.elim) fun e s' q => ?_)
  obtain ⟨gr, a, h₂, rfl, e1, sb, mx, hs⟩ := q
  have V₂ := (Led.set (V1 := [_, _, _, _]) V₁ e1 sb).right.right (V1 := [_])
  have V₃ : Led g s'.heap W := V₂.ext mx.keeps (by rw [sb.1]; exact gr.size)
  rw [hs]
  obtain ⟨t, ht, _, _⟩ := mx.there
  exact hE s'.heap a V₃ ⟨_, ht, rfl⟩
end
section
variable {w : World} {p : Program} {loose : List Str} {mean : ExcName → Option Value} {mg mb : Str → Option Value} {dp un : Nat} {gd : Option (List Code)} {outer : List Env} {base g h h' : Heap} {s : Shared} {E : Value → Shared → Prop}
/-- the tuples that the zip has given, the last first -/
def given (vs : List Value) (f : Nat → Addr × Tok) (k : Nat) : List (Addr × Obj) := ((List.range k).map fun j => ((f j).1, pairObj (vs.getD j .none) (.int (j : Int) (f j).2))).reverse
end
end Mine
end

-- ZC
section
open PySem PySem.W PySem.Calls PyProof.Rows
set_option maxRecDepth 100000
namespace Mine
section
variable {w : World} {p : Program} {loose : List Str} {mean : ExcName → Option Value} {mg mb : Str → Option Value} {dp un : Nat} {gd : Option (List Code)} {outer : List Env} {base g h h' : Heap} {s : Shared} {V V1 V2 W W₀ : List (Addr × Obj)} {E : Value → Shared → Prop}
theorem Led.perm (Vl : Led g h V) (q : V.Perm V1) : Led g h V1 := ⟨Vl.S.sub fun x hx => q.mem_iff.mpr hx, (q.map _).nodup_iff.mp Vl.nd⟩
/-- the references xs are the tuples of vs with their places -/
structure Tups (vs : List Value) (TL : List (Addr × Obj)) (xs : Array Value) (k : Nat) : Prop where
  size : xs.size = k
  all : ∀ j, j < k → ∃ T t, xs[j]? = some (.ref T) ∧ (T, pairObj (vs.getD j .none) (.int (j : Int) t)) ∈ TL
  only : ∀ q ∈ TL, ∃ j, j < k ∧ xs[j]? = some (.ref q.1)
theorem Tups.push {vs : List Value} {TL : List (Addr × Obj)} {xs : Array Value} {k : Nat} {T : Addr} {t : Tok} (h : Tups vs TL xs k) : Tups vs ((T, pairObj (vs.getD k .none) (.int (k : Int) t)) :: TL) (xs.push (.ref T)) (k + 1) where
  size := by rw [Array.size_push, h.size]
  all := fun j hj => by
    rcases Nat.lt_succ_iff_lt_or_eq.mp hj with hj | rfl
    · obtain ⟨T', t', h1, h2⟩ := h.all j hj
      refine ⟨T', t', ?_, .tail _ h2⟩
      rw [Array.getElem?_push, if_neg (by rw [h.size]; lia), h1]
    · exact ⟨T, t, by rw [Array.getElem?_push, if_pos h.size.symm], .head _⟩
  only := fun q hq => by
    rcases List.mem_cons.mp hq with rfl | hq
    · exact ⟨k, Nat.lt_succ_self k, by rw [Array.getElem?_push, if_pos h.size.symm]⟩
    · obtain ⟨j, hj, e⟩ := h.only q hq
      exact ⟨j, Nat.lt_succ_of_lt hj, by rw [Array.getElem?_push, if_neg (by rw [h.size]; lia), e]⟩

theorem pyNext_zip {z TI TO : Addr} {f0 : Value} {f1 : Bool} {Q : Option Value → Shared → Prop} (hz : s.heap.get? z = some (zipObj f0 f1 TI TO))
    (h : wpAny (model PG w) (kAt dp (un + 1) gd outer) (Builtin.«zip.__next__» ⟨[.ref z], []⟩) (fun fin s' => ∃ v, fin = .done (.ret v) ∧ Q (some v) s') (fun e s' => ∃ a o, e = .ref a ∧ s'.heap.get? a = some o ∧ o.cls = .type "StopIteration" ∧ Q none s') s) :
    wpAny (model PG w) (kAt dp un gd outer) (pyNext (.ref z)) Q E s := by
  have hT : s.TypeIs (.ref z) "zip" := ⟨_, hz, rfl⟩
  unfold pyNext
  refine wpAny_bind (wpAny_attempt (wpAny_callSpecial?_slot (name := Str.ofString "__next__") hT F.slot_zip_next
    (wpAny_call_entry F.slot_zip_next hT F.entry_zip_next (wpAny_mono h (fun fin s' q => ?_) fun e s' q => ?_) (F.args_zip_next_1 _))))
  · obtain ⟨v, rfl, q⟩ := q
    exact ⟨v, rfl, wpAny_pure q⟩
  · obtain ⟨a, o, rfl, h1, h2, q⟩ := q
    refine wpAny_bind (wpAny_isInstance (T := "StopIteration") (b := true) ⟨o, h1, h2⟩ stop_self ?_)
    exact wpAny_pure q

theorem loop_zip {S l z TI TO i1 c d T0 : Addr} {ts : Tok} {oT : Obj} {vs : List Value} {nl n : Nat} {res : Value} {R : Result → Shared → Prop} (hn : vs.length = n) (hz : n < sizeLine)
    (mTI : (TI, pairObj (.ref i1) (.ref c)) ∈ W₀) (ml : (l, listOf vs.toArray nl) ∈ W₀) (hdp : dp + 8 < recursionLimit) (hu : un + 100 < cLine) :
    ∀ (j k : Nat) (s : Shared) (g : Heap) (tc : Tok) (f1 : Bool) (va vb : Value) (xs : Array Value) (cs : Nat) (TL : List (Addr × Obj)), k + j = n → Stand w p loose mean mg mb (kAt dp un gd outer) base outer g →
      Led g s.heap (ZV l z TI TO i1 c d k tc ts (.int (T0 : Nat) 0) f1 va vb ++ ((S, listOf xs cs) :: TL ++ W₀)) → (T0, oT) ∈ TL → Tups vs TL xs k →
      (∀ g' h' tk' xs' cs' TL', KtsTurn (outer.filterMap (·.frame)) g g' → Led g' h' ((S, listOf xs' cs') :: TL' ++ W₀) → Tups vs TL' xs' n → R (.ok (.ret res)) { s with heap := h', toks := tk' }) →
      codeAny (model PG w) (kAt dp un gd outer) (.builtin "list.extend.loop" ⟨[.ref S, .ref z, res], []⟩) R s := by
  intro j
  induction j with
  | zero =>
    intro k s g tc f1 va vb xs cs TL hk St Vl mT TT hR
    obtain rfl : k = n := by lia
    refine codeAny_builtin F.entry_extend_loop ?_
    rw [Around.under_plainId F.plain_extend_loop _]
    show wpAny _ (kAt dp (un + 1) gd outer) (pyNext (.ref z) >>= _) _ _ s
    refine wpAny_bind (pyNext_zip (Vl.get (a := z) (List.mem_append_left _ (.tail _ (.tail _ (.head _))))) ?_)
    refine zip_over Vl (List.mem_append_right _ mTI) (List.mem_append_right _ ml) (List.mem_append_left _ (.tail _ mT)) (by simp [hn]) fun h' e V' ⟨o, ho, hc⟩ => ?_
    exact ⟨e, o, rfl, ho, hc, wpAny_pure (hR g h' s.toks xs cs TL .refl V' TT)⟩
  | succ j ih =>
    intro k s g tc f1 va vb xs cs TL hk St Vl mT TT hR
    refine codeAny_builtin F.entry_extend_loop ?_
    rw [Around.under_plainId F.plain_extend_loop _]
    show wpAny _ (kAt dp (un + 1) gd outer) (pyNext (.ref z) >>= _) _ _ s
    have hlt : k < vs.length := by lia
    refine wpAny_bind (pyNext_zip (Vl.get (a := z) (List.mem_append_left _ (.tail _ (.tail _ (.head _))))) ?_)
    refine zip_later (un := un + 1 + 1) (St.around rfl) Vl (List.mem_append_right _ mTI) (List.mem_append_right _ ml) (List.mem_append_left _ (.tail _ mT)) (v := vs.getD k .none) (by simp [List.getD, hlt]) hdp (by lia) fun g' h' tk' T tc' T' V' => ?_
    show wpAny _ _ (updateSeq S (·.push (.ref T)) >>= fun _ => again (.builtin "list.extend.loop" ⟨[.ref S, .ref z, res], []⟩)) _ _ _
    have hS := V'.get (a := S) (List.mem_append_right _ (.head _))
    refine wpAny_bind (wpAny_updateSeq hS rfl ?_ (hz := by rw [TT.size]; lia) (_hz' := by rw [Array.size_push, TT.size]; lia))
    have V'' := Led.set (V1 := (T, _) :: ZV l z TI TO i1 c d (k + 1) tc' ts (.int (T0 : Nat) 0) true va vb) V' (Heap.get?_update_self (Obj.mapSeq (·.push (Value.ref T))) hS rfl) (Heap.SameBut.update ..)
    obtain ⟨cs', e⟩ : ∃ cs', Obj.mapSeq (·.push (Value.ref T)) (listOf xs cs) = listOf (xs.push (.ref T)) cs' := ⟨_, rfl⟩
    rw [e] at V''
    have V3 : Led g' _ (ZV l z TI TO i1 c d (k + 1) tc' ts (.int (T0 : Nat) 0) true va vb ++ ((S, listOf (xs.push (.ref T)) cs') :: ((T, pairObj (vs.getD k .none) (.int (k : Int) tc)) :: TL) ++ W₀)) :=
      V''.perm (List.perm_middle (l₁ := ZV l z TI TO i1 c d (k + 1) tc' ts (.int (T0 : Nat) 0) true va vb ++ [(S, listOf (xs.push (.ref T)) cs')]) (l₂ := TL ++ W₀) (a := (T, pairObj (vs.getD k .none) (.int (k : Int) tc)))).symm
    refine wpAny_pure ⟨plainId_quiet F.plain_extend_loop _, ih (k + 1) _ g' tc' true va vb _ cs' ((T, pairObj (vs.getD k .none) (.int (k : Int) tc)) :: TL) (by lia) (St.turn T') V3 (.tail _ mT) TT.push fun g2 h2 tk2 xs2 cs2 TL2 T2 V2 TT2 => ?_⟩
    exact hR g2 h2 tk2 xs2 cs2 TL2 (T'.trans T2) V2 TT2

theorem hint_zip : typeLookup (.type "zip") "__length_hint__" = pure none := by rw [typeLookup_type, builtinLookup_eq_fast]; kernel_rfl
theorem len_zip : typeLookup (.type "zip") "__len__" = pure none := by rw [typeLookup_type, builtinLookup_eq_fast]; kernel_rfl

/-- all that the zip gives, collected -/
theorem collect_zip {l z TI TO i1 c d : Addr} {tc ts : Tok} {vs : List Value} {nl n : Nat} {Q : List Value → Shared → Prop} (hn : vs.length = n) (hz : n < sizeLine) (h1 : 0 < n)
    (mTI : (TI, pairObj (.ref i1) (.ref c)) ∈ W₀) (ml : (l, listOf vs.toArray nl) ∈ W₀) (hdp : dp + 8 < recursionLimit) (hu : un + 110 < cLine) (St : Stand w p loose mean mg mb (kAt dp un gd outer) base outer g)
    (Vl : Led g s.heap (ZV l z TI TO i1 c d 0 tc ts .none false .none .none ++ W₀))
    (hQ : ∀ g' h' tk' xs S cs TL, KtsTurn (outer.filterMap (·.frame)) g g' → Led g' h' ((S, listOf xs cs) :: TL ++ W₀) → Tups vs TL xs n → Q xs.toList { s with heap := h', toks := tk' }) :
    wpAny (model PG w) (kAt dp un gd outer) (collect (.ref z)) Q E s := by
  unfold collect
  refine wpAny_bind (wpAny_runValue (codeAny_builtin F.entry_proto_collect ?_))
  rw [Around.under_plainId F.plain_proto_collect _]
  show wpAny _ (kAt dp (un + 1) gd outer) (newList [] >>= fun l => again (.builtin "list.__iadd__" ⟨[l, .ref z], []⟩)) _ _ s
  refine wpAny_bind (wpAny_newObj_type ?_)
  refine wpAny_pure ⟨plainId_quiet F.plain_list_iadd _, codeAny_builtin F.entry_list_iadd ?_⟩
  rw [Around.under_plainId F.plain_list_iadd _]
  have V₁ := Vl.push { cls := .type "list", data := .seq #[] }
  have hzz := V₁.get (a := z) (.tail _ (.tail _ (.tail _ (.head _))))
  have hSz : s.heap.objs.size ≠ z := fun e => by
    have := Heap.lt_size (Vl.get (a := z) (.tail _ (.tail _ (.head _))))
    rw [← e] at this; exact absurd this (Nat.lt_irrefl _)
  show wpAny _ (kAt dp (un + 1) gd outer) (Builtin.List.listExtendWith (.ref s.heap.objs.size) (.ref z) (.ref s.heap.objs.size)) _ _ _
  unfold Builtin.List.listExtendWith
  refine wpAny_bind (wpAny_typeOf (T := "zip") ⟨_, hzz, rfl⟩ ?_)
  rw [if_neg (by simp [Builtin.List.listSameRef, hSz])]
  refine wpAny_bind (wpAny_pyIter_zip hzz ?_)
  refine wpAny_bind (wpAny_holding ?_)
  unfold Builtin.List.listLengthHint
  refine wpAny_bind (wpAny_specialOf ⟨_, hzz, rfl⟩ len_zip ?_)
  show wpAny _ _ (specialOf (Value.ref z) (Str.ofString "__length_hint__") >>= _) _ _ _
  refine wpAny_bind (wpAny_specialOf ⟨_, hzz, rfl⟩ hint_zip ?_)
  refine wpAny_pure ?_
  simp only [Bool.true_or, if_true]
  show wpAny _ _ (rule "list.extend.makes-room" >>= fun _ => Builtin.List.listTouch (.ref s.heap.objs.size) >>= fun _ => again (.builtin "list.extend.loop" ⟨[.ref s.heap.objs.size, .ref z, .ref s.heap.objs.size], []⟩)) _ _ _
  refine wpAny_bind (wpAny_rule ?_)
  refine wpAny_bind ?_
  show wpAny _ _ (updateSeq s.heap.objs.size (·.push .none) >>= fun _ => updateSeq s.heap.objs.size (·.pop)) _ _ _
  have hS1 := V₁.get (.head _)
  refine wpAny_bind (wpAny_updateSeq hS1 rfl ?_)
  have V₂ := Led.set (V1 := []) V₁ (Heap.get?_update_self (Obj.mapSeq (·.push Value.none)) hS1 rfl) (Heap.SameBut.update ..)
  have hS2 := V₂.get (.head _)
  refine wpAny_updateSeq (hz := by seq_fits) hS2 rfl ?_
  have V₃ := Led.set (V1 := []) V₂ (Heap.get?_update_self (Obj.mapSeq (·.pop)) hS2 rfl) (Heap.SameBut.update ..)
  obtain ⟨c0, e0⟩ : ∃ c0, Obj.mapSeq (·.pop) (Obj.mapSeq (·.push Value.none) { cls := .type "list", data := .seq #[] }) = listOf #[] c0 := ⟨_, rfl⟩
  rw [e0] at V₃
  have V₄ : Led g _ (ZV l z TI TO i1 c d 0 tc ts .none false .none .none ++ ((s.heap.objs.size, listOf #[] c0) :: W₀)) :=
    V₃.perm (List.perm_middle (l₁ := ZV l z TI TO i1 c d 0 tc ts .none false .none .none) (l₂ := W₀)).symm
  generalize hh4 : (((s.heap.push { cls := .type "list", data := .seq #[] }).update s.heap.objs.size (Obj.mapSeq (·.push Value.none))).update s.heap.objs.size (Obj.mapSeq (·.pop))) = h4 at V₄ ⊢
  clear V₃ hS2 V₂ hS1 hzz V₁
  generalize s.heap.objs.size = S at *
  refine wpAny_pure ⟨plainId_quiet F.plain_extend_loop _, ?_⟩
  refine codeAny_builtin F.entry_extend_loop ?_
  rw [Around.under_plainId F.plain_extend_loop _]
  show wpAny _ (kAt dp (un + 1) gd outer) (pyNext (.ref z) >>= _) _ _ _
  refine wpAny_bind (pyNext_zip (V₄.get (a := z) (List.mem_append_left _ (.tail _ (.tail _ (.head _))))) ?_)
  have h0 : 0 < vs.length := by lia
  refine zip_first (un := un + 1 + 1) (s := { s with heap := h4 }) (St.around rfl) V₄ (.tail _ mTI) (.tail _ ml) (v := vs.getD 0 .none) (by simp [List.getD, h0]) hdp (by lia) fun g' h' tk' T tc' T' V' => ?_
  show wpAny _ _ (updateSeq S (·.push (.ref T)) >>= fun _ => again (.builtin "list.extend.loop" ⟨[.ref S, .ref z, .ref S], []⟩)) _ _ _
  have hS := V'.get (a := S) (List.mem_append_right _ (.head _))
  refine wpAny_bind (wpAny_updateSeq hS rfl ?_ (hz := by seq_fits) (_hz' := by seq_fits))
  have V'' := Led.set (V1 := (T, _) :: ZV l z TI TO i1 c d 1 tc' ts (.int (T : Nat) 0) false (vs.getD 0 .none) (.int ((0 : Nat) : Int) tc)) V' (Heap.get?_update_self (Obj.mapSeq (·.push (Value.ref T))) hS rfl) (Heap.SameBut.update ..)
  obtain ⟨cs', e⟩ : ∃ cs', Obj.mapSeq (·.push (Value.ref T)) (listOf #[] c0) = listOf (#[].push (.ref T)) cs' := ⟨_, rfl⟩
  rw [e] at V''
  have V5 : Led g' _ (ZV l z TI TO i1 c d 1 tc' ts (.int (T : Nat) 0) false (vs.getD 0 .none) (.int ((0 : Nat) : Int) tc) ++ ((S, listOf (#[].push (.ref T)) cs') :: [(T, pairObj (vs.getD 0 .none) (.int ((0 : Nat) : Int) tc))] ++ W₀)) :=
    V''.perm (List.perm_middle (l₁ := ZV l z TI TO i1 c d 1 tc' ts (.int (T : Nat) 0) false (vs.getD 0 .none) (.int ((0 : Nat) : Int) tc) ++ [(S, listOf (#[].push (.ref T)) cs')]) (l₂ := W₀) (a := (T, pairObj (vs.getD 0 .none) (.int ((0 : Nat) : Int) tc)))).symm
  have TT0 : Tups vs [] #[] 0 := ⟨rfl, fun j hj => absurd hj (Nat.not_lt_zero j), fun _ hq => nomatch hq⟩
  refine wpAny_pure ⟨plainId_quiet F.plain_extend_loop _, loop_zip (un := un) hn hz mTI ml hdp (by lia) (n - 1) 1 _ g' tc' false _ _ _ cs' [(T, pairObj (vs.getD 0 .none) (.int ((0 : Nat) : Int) tc))] (by lia) ((St.turn T').around rfl) V5 (.head _) TT0.push fun g2 h2 tk2 xs2 cs2 TL2 T2 V2 TT2 => ?_⟩
  show wpAny _ _ (load S >>= _) _ _ _
  refine wpAny_bind (wpAny_load (V2.get (.head _)) ?_)
  exact wpAny_pure (hQ g2 h2 tk2 xs2 S cs2 TL2 (T'.trans T2) V2 TT2)
end
end Mine
end

-- SO
section
open PySem PySem.W PySem.Calls PyProof.Rows
set_option maxRecDepth 100000
namespace Mine
section
variable {prog : Program} {w : World} {A : Around} {base g h h' : Heap} {s : Shared} {V V1 V2 W : List (Addr × Obj)} {E : Value → Shared → Prop}
theorem zip_dup {α : Type} : ∀ l : List α, l.zip l = l.map fun v => (v, v)
  | [] => rfl
  | x :: r => by rw [List.zip_cons_cons, zip_dup r]; rfl
/-- list.sort (not reversed) of things that a rank tells apart -/
theorem sort_led {a : Addr} {ks : List Value} {c : Nat} {κ : SortKind} {rr : Value → Nat} {P : Value → Prop} {Q : Fin → Shared → Prop} (Vl : Led g s.heap ((a, listOf ks.toArray c) :: W)) (h2 : 2 ≤ ks.length) (h66 : ks.length ≤ 66)
    (hP : ∀ v ∈ ks, P v) (nd : (ks.map rr).Nodup)
    (hk : ∀ (s' : Shared) (Q' : SortKind → Shared → Prop), (∀ b o, b ≠ a → s.heap.get? b = some o → s'.heap.get? b = some o) → Q' κ s' → wpAny (model prog w) A (keyKind' ks.toArray) Q' E s')
    (hA : ∀ (s' : Shared), (∀ b o, b ≠ a → s.heap.get? b = some o → s'.heap.get? b = some o) → ∀ x y, P x → P y → wpAny (model prog w) A (keyLt' κ x y) (fun b s'' => s'' = s' ∧ b = decide (rr x < rr y)) (fun _ _ => False) s')
    (hQ : ∀ (h' : Heap) (ks' : List Value) (c' : Nat), ks'.Perm ks → ks'.Pairwise (fun x y => rr x < rr y) → Led g h' ((a, listOf ks'.toArray c') :: W) → Q (.done (.ret .none)) { s with heap := h' }) :
    wpAny (model prog w) A (Builtin.«list.sort» ⟨[.ref a], [(Str.ofString "reverse", .bool false)]⟩) Q E s := by
  rw [list_sort_rev]
  have ho := Vl.get (.head _)
  refine wpAny_bind (listItems_at ho rfl ?_)
  refine wpAny_bind (listUpdate_at ho rfl ?_ (hsz := by rw [List.size_toArray, sizeLine_eq]; lia) (hsz2 := Nat.zero_le _))
  have V₁ := Led.set (V1 := []) Vl (Heap.get?_update_self (Obj.mapSeq fun _ => (#[] : Array Value)) ho rfl) (Heap.SameBut.update ..)
  obtain ⟨e1, he1⟩ : ∃ e1, Obj.mapSeq (fun _ => (#[] : Array Value)) (listOf ks.toArray c) = listOf #[] e1 := ⟨_, rfl⟩
  rw [he1] at V₁
  have ho1 := V₁.get (.head _)
  have keep1 : ∀ b o, b ≠ a → s.heap.get? b = some o → (s.heap.update a (Obj.mapSeq fun _ => (#[] : Array Value))).get? b = some o := fun b o hb e => (Heap.get?_update_other _ _ (Ne.symm hb)).trans e
  generalize hh1 : s.heap.update a (Obj.mapSeq fun _ => (#[] : Array Value)) = h1 at *
  refine wpAny_bind (seqEpoch_at (s := { s with heap := h1 }) ho1 rfl ?_)
  refine wpAny_bind (wpAny_newTuple ?_ (by show ks.length ≤ _; rw [sizeLine_eq]; lia))
  have V₂ := (V₁.push (seqObj "tuple" ks.toArray 0)).right (V1 := [_])
  have k2 : ∀ b o, h1.get? b = some o → (h1.push (seqObj "tuple" ks.toArray 0)).get? b = some o := fun b o e => Heap.get?_push_of_some _ e
  refine wpAny_bind (wpAny_newList ?_ (Nat.zero_le _))
  have V₃ := (V₂.push (seqObj "list" #[] 0)).right (V1 := [_])
  have k3 : ∀ b o, (h1.push (seqObj "tuple" ks.toArray 0)).get? b = some o → ((h1.push (seqObj "tuple" ks.toArray 0)).push (seqObj "list" #[] 0)).get? b = some o := fun b o e => Heap.get?_push_of_some _ e
  show wpAny _ _ (holding _ _) _ _ { s with heap := (h1.push (seqObj "tuple" ks.toArray 0)).push (seqObj "list" #[] 0) }
  have keep : ∀ b o, b ≠ a → s.heap.get? b = some o → ((h1.push (seqObj "tuple" ks.toArray 0)).push (seqObj "list" #[] 0)).get? b = some o := fun b o hb e => k3 _ _ (k2 _ _ (keep1 b o hb e))
  generalize hh3 : (h1.push (seqObj "tuple" ks.toArray 0)).push (seqObj "list" #[] 0) = h3 at *
  refine wpAny_holding ?_
  have hn2 : ¬ ks.toArray.size < 2 := by rw [List.size_toArray]; lia
  dsimp only
  simp only [Bool.false_eq_true, if_false]
  rw [if_neg hn2, if_neg hn2]
  refine wpAny_bind (hk _ _ keep ?_)
  have hit : (ks.toArray.zip ks.toArray) = (ks.map fun v => (v, v)).toArray := by
    apply Array.toList_inj.mp
    rw [Array.toList_zip]
    exact zip_dup ks
  have hI : Items (fun p => rr p.1) (fun p => P p.1 ∧ p.2 = p.1) (ks.map fun v => (v, v)).toArray := ⟨fun p hp => by
      obtain ⟨v, hv, rfl⟩ := List.mem_map.mp (by simpa using hp)
      exact ⟨hP v hv, rfl⟩, by simpa [List.map_map, Function.comp_def] using nd⟩
  rw [hit]
  have hAn : Answers prog w A { s with heap := h3 } κ (fun p => rr p.1) (fun p => P p.1 ∧ p.2 = p.1) := fun x y hx hy => hA _ keep x.1 y.1 hx.1 hy.1
  have hsz : (ks.map fun v => (v, v)).toArray.size = ks.length := by simp
  refine wpAny_bind (wpAny_mono (ts_sortRuns (E := E) (Q := fun _ st' => ∃ a' pd g, st' = sst κ a' pd g ∧ a'.Perm (ks.map fun v => (v, v)).toArray ∧ Up (fun p : Keyed => rr p.1) a' 0 a'.size) hAn hI (by lia) (by lia) fun a' pd g p u => ⟨a', pd, g, rfl, p, u⟩) ?_ fun _ _ e => e)
  rintro ⟨⟨⟩, st'⟩ s' ⟨rfl, a', pd, gg, rfl, hp, hu⟩
  dsimp only
  have ho3 := V₃.get (.head _)
  have hsz' : (Array.map (fun x : Keyed => x.snd) a').size ≤ sizeLine + 1 := by
    rw [Array.size_map, hp.size_eq, hsz, sizeLine_eq]; lia
  refine wpAny_bind (seqEpoch_at (s := { s with heap := h3 }) ho3 rfl ?_)
  refine wpAny_bind (listUpdate_at (s := { s with heap := h3 }) ho3 rfl ?_ (Nat.zero_le _) hsz')
  have V₄ := Led.set (V1 := []) V₃ (Heap.get?_update_self (Obj.mapSeq fun _ => Array.map (fun x : Keyed => x.snd) a') ho3 rfl) (Heap.SameBut.update ..)
  have hout : Array.map (fun x : Keyed => x.snd) a' = (a'.toList.map (·.2)).toArray := by
    apply Array.toList_inj.mp; simp
  obtain ⟨e4, he4⟩ : ∃ e4, Obj.mapSeq (fun _ => Array.map (fun x : Keyed => x.snd) a') (listOf #[] e1) = listOf (Array.map (fun x : Keyed => x.snd) a') e4 := ⟨_, rfl⟩
  have he5 : listOf (Array.map (fun x : Keyed => x.snd) a') e4 = listOf (a'.toList.map (fun p : Keyed => p.2)).toArray e4 := by rw [hout]
  rw [he4, he5] at V₄
  simp only [bne_self_eq_false, Bool.false_eq_true, if_false]
  have hI' := hI.perm hp
  have hp' := Array.perm_iff_toList_perm.mp hp
  refine wpAny_pure (hQ _ (a'.toList.map (fun p : Keyed => p.2)) e4 ?_ ?_ V₄)
  · have := hp'.map (fun p : Keyed => p.2)
    simpa [List.map_map, Function.comp_def] using this
  · rw [List.pairwise_iff_getElem]
    intro i j hi hj hij
    simp only [List.length_map, Array.length_toList] at hi hj
    have e := hu i j (Nat.zero_le _) hij hj
    rw [kk_at hi, kk_at hj] at e
    have e1 := (hI'.at hi).2
    have e2 := (hI'.at hj).2
    simp only [List.getElem_map, Array.getElem_toList]
    rw [e1, e2]
    exact e
end
end Mine
end

-- SZ
section
open PySem PySem.W PySem.Calls PyProof.Rows
set_option maxRecDepth 100000
namespace Mine
/-- things that a rank tells apart, read in any heap that keeps b -/
structure Ranked (w : World) (b : Heap) (vs : List Value) (ρ : Nat → Nat) : Prop where
  below : ∀ i, i < vs.length → ρ i < vs.length
  inj : ∀ i j, i < vs.length → j < vs.length → ρ i = ρ j → i = j
  typ : ∃ T : Value, (T == T) = true ∧ (∀ v ∈ vs, ∀ h, b.StaysIn h → Looks (model PG w) h (typeOf v) T) ∧
    ∀ i j, i < vs.length → j < vs.length → i ≠ j → ∀ {A : Around} {E : Value → Shared → Prop} {s : Shared} {Q : Bool → Shared → Prop}, b.StaysIn s.heap → A.depth + 5 < recursionLimit → A.units + 50 < cLine →
      Q (decide (ρ i < ρ j)) s → wpAny (model PG w) A (oneLt' (T != .type "tuple") (vs.getD i .none) (vs.getD j .none)) Q E s
  same : ∀ i j, i < vs.length → j < vs.length → Asks w b (vs.getD i .none) (vs.getD j .none) (decide (i = j))
  eq : ∀ i j, i < vs.length → j < vs.length → ∀ {A : Around} {E : Value → Shared → Prop} {s : Shared} {Q : Bool → Shared → Prop}, b.StaysIn s.heap → A.depth + 5 < recursionLimit → A.units + 50 < cLine →
      Q (decide (i = j)) s → wpAny (model PG w) A (eqBool (vs.getD i .none) (vs.getD j .none)) Q E s

theorem rise_ge {l : List Nat} (h : l.Pairwise (· < ·)) : ∀ k (hk : k < l.length), k ≤ l[k] := by
  intro k
  induction k with
  | zero => intro _; exact Nat.zero_le _
  | succ k ih =>
    intro hk
    have a := ih (by lia)
    have b := List.pairwise_iff_getElem.mp h k (k + 1) (by lia) hk (by lia)
    lia
theorem rise_le {l : List Nat} {n : Nat} (h : l.Pairwise (· < ·)) (hb : ∀ x ∈ l, x < n) : ∀ d k (hk : k < l.length), l.length = k + d + 1 → l[k] + d < n := by
  intro d
  induction d with
  | zero => intro k hk _; exact hb _ (List.getElem_mem hk)
  | succ d ih =>
    intro k hk e
    have a := ih (k + 1) (by lia) (by lia)
    have b := List.pairwise_iff_getElem.mp h k (k + 1) hk (by lia) (by lia)
    lia
theorem rise_eq {l : List Nat} {n : Nat} (h : l.Pairwise (· < ·)) (hb : ∀ x ∈ l, x < n) (hl : l.length = n) (k : Nat) (hk : k < l.length) : l[k] = k := by
  have a := rise_ge h k hk
  have b := rise_le h hb (n - 1 - k) k hk (by omega)
  omega

section
variable {w : World} {p : Program} {loose : List Str} {mean : ExcName → Option Value} {mg mb : Str → Option Value} {dp un : Nat} {gd : Option (List Code)} {outer : List Env} {base g h h' : Heap} {s : Shared} {V V1 V2 W W₀ : List (Addr × Obj)} {E : Value → Shared → Prop}

theorem nodup_fun {V : List (Addr × Obj)} (nd : (V.map (·.1)).Nodup) {a : Addr} {x y : Obj} (hx : (a, x) ∈ V) (hy : (a, y) ∈ V) : x = y := by
  induction V with
  | nil => cases hx
  | cons q r ih =>
    simp only [List.map_cons, List.nodup_cons] at nd
    rcases List.mem_cons.mp hx with h1 | h1 <;> rcases List.mem_cons.mp hy with h2 | h2
    · exact (congrArg Prod.snd (h1.trans h2.symm))
    · exact absurd (show q.1 ∈ r.map (·.1) from (congrArg Prod.fst h1) ▸ List.mem_map_of_mem (f := (·.1)) h2) nd.1
    · exact absurd (show q.1 ∈ r.map (·.1) from (congrArg Prod.fst h2) ▸ List.mem_map_of_mem (f := (·.1)) h1) nd.1
    · exact ih nd.2 h1 h2

theorem Tups.inj {vs : List Value} {TL : List (Addr × Obj)} {xs : Array Value} {n : Nat} (T : Tups vs TL xs n) (nd : (TL.map (·.1)).Nodup) {i j : Nat} (hi : i < n) (hj : j < n) (e : xs[i]? = xs[j]?) : i = j := by
  obtain ⟨a, t, h1, h2⟩ := T.all i hi
  obtain ⟨a', t', h3, h4⟩ := T.all j hj
  rw [h1, h3] at e
  cases e
  have := nodup_fun nd h2 h4
  simp only [pairObj, Obj.mk.injEq, Data.seq.injEq, and_true, true_and] at this
  have h5 : Value.int (i : Int) t = Value.int (j : Int) t' := Option.some.inj (congrArg (fun z : Array Value => z[1]?) this)
  have h6 := (Value.int.inj h5).1
  omega

theorem kat_of {h : Heap} : ∀ (l fs : List Value), l.length = fs.length → (∀ i, i < l.length → ∃ a o xs n, l[i]? = some (.ref a) ∧ h.get? a = some o ∧ o.cls = .type "tuple" ∧ o.data = .seq xs n ∧ xs[0]? = fs[i]?) → KatTups h l fs
  | [], [], _, _ => trivial
  | [], _ :: _, e, _ => by cases e
  | _ :: _, [], e, _ => by cases e
  | v :: l, f :: fs, e, k => by
    obtain ⟨a, o, xs, n, h1, h2, h3, h4, h5⟩ := k 0 (Nat.zero_lt_succ _)
    refine ⟨⟨a, o, xs, n, Option.some.inj h1, h2, h3, h4, h5⟩, kat_of l fs (Nat.succ.inj e) fun i hi => ?_⟩
    exact k (i + 1) (Nat.succ_lt_succ hi)

/-- sorted things, each with its place -/
theorem sorted_zip {l z TI TO i1 c d : Addr} {tc ts : Tok} {vs : List Value} {nl n : Nat} {ρ : Nat → Nat} {b : Heap} {Q : Value → Shared → Prop} (hn : vs.length = n) (h66 : n ≤ 66) (h2 : 2 ≤ n) (Rk : Ranked w b vs ρ) (hb : ∀ g', KtsTurn (outer.filterMap (·.frame)) g g' → b.StaysIn g')
    (mTI : (TI, pairObj (.ref i1) (.ref c)) ∈ W₀) (ml : (l, listOf vs.toArray nl) ∈ W₀) (hdp : dp + 8 < recursionLimit) (hu : un + 130 < cLine) (St : Stand w p loose mean mg mb (kAt dp un gd outer) base outer g)
    (Vl : Led g s.heap (ZV l z TI TO i1 c d 0 tc ts .none false .none .none ++ W₀))
    (hQ : ∀ g' h' tk' D ks cs TL, KtsTurn (outer.filterMap (·.frame)) g g' → Led g' h' ((D, listOf (List.toArray ks) cs) :: TL ++ W₀) → ks.length = n →
      (∀ k, k < n → ∃ j T t, j < n ∧ ρ j = k ∧ ks[k]? = some (.ref T) ∧ (T, pairObj (vs.getD j .none) (.int (j : Int) t)) ∈ TL) → (∀ q ∈ TL, q.1 < D) → Q (.ref D) { s with heap := h', toks := tk' }) :
    wpAny (model PG w) (kAt dp un gd outer) (call (.builtin "sorted") [.ref z] [(Str.ofString "reverse", .bool false)]) Q E s := by
  refine call_function_entry_kw kind_sorted plain_sorted entry_sorted (args_sorted_rev _ _) ?_
  unfold Builtin.«sorted»
  refine wpAny_bind (m := checkCount "sorted" 1 1 _) (wpAny_pure ?_)
  have hsl : n < sizeLine := by rw [sizeLine_eq]; lia
  refine wpAny_bind (collect_zip (un := un + 1) hn hsl (by lia) mTI ml hdp (by lia) (St.around rfl) Vl fun g' h' tk' xs S cs TL T' V' TT => ?_)
  refine wpAny_bind (wpAny_newList ?_ (by show xs.toList.length ≤ _; rw [Array.length_toList, TT.size]; lia))
  have V₁ := V'.push (listOf xs.toList.toArray 0)
  have V₂ : Led g' _ ((h'.objs.size, listOf xs.toList.toArray 0) :: TL ++ W₀) := (V₁.perm (List.Perm.swap _ _ _)).right (V1 := [_])
  have ndT : (TL.map (·.1)).Nodup := by
    have e : ((TL ++ W₀).map (·.1)).Nodup := (V₂.right (V1 := [_])).nd
    rw [List.map_append, List.nodup_append] at e
    exact e.1
  have hlt : ∀ q ∈ TL, q.1 < h'.objs.size := fun q hq => Heap.lt_size (V'.S.has q (List.mem_append_left _ (.tail _ hq))).1
  generalize hD : h'.objs.size = D at *
  have hoD := V₂.get (.head _)
  have bst : b.StaysIn h' := fun a o e => V'.S.keep _ _ (hb g' T' a o e)
  -- the rank of a tuple is its thing's
  let rr : Value → Nat := fun v => open Classical in if h : ∃ j, j < n ∧ xs[j]? = some v then ρ h.choose else 0
  let P : Value → Prop := fun v => ∃ j T t, j < n ∧ v = .ref T ∧ xs[j]? = some (.ref T) ∧ (T, pairObj (vs.getD j .none) (.int (j : Int) t)) ∈ TL
  have hrr : ∀ j v, j < n → xs[j]? = some v → rr v = ρ j := fun j v hj e => by
    have hh : ∃ j, j < n ∧ xs[j]? = some v := ⟨j, hj, e⟩
    show (if h : ∃ j, j < n ∧ xs[j]? = some v then ρ h.choose else 0) = ρ j
    rw [dif_pos hh]
    exact congrArg ρ (TT.inj ndT hh.choose_spec.1 hj (hh.choose_spec.2.trans e.symm))
  have hmem : ∀ v ∈ xs.toList, P v := fun v hv => by
    obtain ⟨j, hj, e⟩ := List.getElem_of_mem hv
    have hj' : j < n := by simpa [TT.size] using hj
    obtain ⟨T, t, h1, h2⟩ := TT.all j hj'
    refine ⟨j, T, t, hj', ?_, h1, h2⟩
    rw [← e]
    have hj2 : j < xs.size := by rw [TT.size]; exact hj'
    rw [Array.getElem?_eq_getElem hj2] at h1
    simpa using Option.some.inj h1
  have hrank : xs.toList.map rr = (List.range n).map ρ := by
    apply List.ext_getElem
    · simp [TT.size]
    · intro j h1 h2
      have hj : j < n := by simpa using h2
      obtain ⟨T, t, h3, _⟩ := TT.all j hj
      have hj2 : j < xs.size := by rw [TT.size]; exact hj
      simp only [List.getElem_map, List.getElem_range, Array.getElem_toList]
      exact hrr j _ hj (Array.getElem?_eq_getElem hj2)
  obtain ⟨T, hT2, hTy, hTlt⟩ := Rk.typ
  have inj : ∀ i j, i < n → j < n → ρ i = ρ j → i = j := fun i j hi hj e => Rk.inj i j (hn ▸ hi) (hn ▸ hj) e
  have ndr : (xs.toList.map rr).Nodup := by
    rw [hrank]
    rw [List.nodup_iff_pairwise_ne, List.pairwise_map]
    refine List.Pairwise.imp_of_mem ?_ List.nodup_range
    intro a b ha hb hab e
    exact hab (inj a b (List.mem_range.mp ha) (List.mem_range.mp hb) e)
  have apD : ∀ q ∈ TL, q.1 ≠ D := fun q hq => Led.apart (V1 := [(D, _)]) V₂ q (List.mem_append_left _ hq) _ (.head _)
  have tup : ∀ (s' : Shared), (∀ b o, b ≠ D → (h'.push (listOf xs.toList.toArray 0)).get? b = some o → s'.heap.get? b = some o) → ∀ q ∈ TL, s'.heap.get? q.1 = some q.2 := fun s' k q hq =>
    k _ _ (apD q hq) (V₂.get (a := q.1) (o := q.2) (.tail _ (List.mem_append_left _ hq)))
  have stb : ∀ (s' : Shared), (∀ b o, b ≠ D → (h'.push (listOf xs.toList.toArray 0)).get? b = some o → s'.heap.get? b = some o) → b.StaysIn s'.heap := fun s' k a o e =>
    k a o (fun z => by
      have h1 := hb g' T' a o e
      have h2 := (V₂.S.has _ (.head _)).2
      rw [z] at h1; rw [h1] at h2; cases h2) (V₂.S.keep _ _ (hb g' T' a o e))
  refine wpAny_bind (wpAny_holding (wpAny_call_entry_kw (A := kAt dp (un + 1) gd outer) slot_list_sort ⟨_, hoD, rfl⟩ entry_list_sort (sort_led (κ := tuples' (T != Value.type "tuple")) (rr := rr) (P := P) V₂ (by rw [Array.length_toList, TT.size]; exact h2) (by rw [Array.length_toList, TT.size]; exact h66) hmem ndr (fun s' Q' k q => ?_) (fun s' k x y hx hy => ?_) fun h2' ks' c' hp hs V₃ => ⟨_, rfl, ?_⟩) (args_list_sort_rev _ _)))
  · refine kat_kind (fs := vs) (kat_of _ _ (by rw [Array.length_toList, TT.size, hn]) fun i hi => ?_) (by lia) (fun v hv => hTy v hv _ (stb s' k)) hT2 q
    have hi' : i < n := by rw [Array.length_toList, TT.size] at hi; exact hi
    obtain ⟨a, t, h1, h2'⟩ := TT.all i hi'
    refine ⟨a, _, _, 0, by rw [← h1]; simp, tup s' k _ h2', rfl, rfl, ?_⟩
    show some (vs.getD i .none) = vs[i]?
    rw [List.getD, List.getElem?_eq_getElem (by lia)]; rfl
  · obtain ⟨j1, a1, t1, hj1, rfl, e1, m1⟩ := hx
    obtain ⟨j2, a2, t2, hj2, rfl, e2, m2⟩ := hy
    refine kat_lt (tup s' k _ m1) rfl (tup s' k _ m2) rfl ?_
    show wpAny _ _ (eqBool (vs.getD j1 .none) (vs.getD j2 .none)) _ _ _
    refine Rk.eq j1 j2 (by lia) (by lia) (stb s' k) (by show dp + 5 < recursionLimit; lia) (by show un + 1 + 1 + 50 < cLine; lia) ?_
    rw [hrr j1 _ hj1 e1, hrr j2 _ hj2 e2]
    by_cases hj : j1 = j2
    · subst hj
      rw [if_pos (decide_eq_true rfl)]
      show wpAny _ _ (eqBool (.int j1 t1) (.int j1 t2)) _ _ _
      refine wpAny_eqBool_int ?_
      rw [if_pos (by simp)]
      exact ⟨rfl, by simp⟩
    · rw [if_neg (by rw [decide_eq_false hj]; exact Bool.false_ne_true)]
      show wpAny _ _ (oneLt' ((T != .type "tuple") && true) _ _) _ _ _
      rw [Bool.and_true]
      exact hTlt j1 j2 (by lia) (by lia) hj (stb s' k) (by show dp + 5 < recursionLimit; lia) (by show un + 1 + 1 + 50 < cLine; lia) ⟨rfl, rfl⟩
  · have hl : ks'.length = n := by rw [hp.length_eq, Array.length_toList, TT.size]
    refine wpAny_pure ⟨_, rfl, hQ g' h2' tk' D ks' c' TL T' V₃ hl (fun k hk => ?_) hlt⟩
    have hk' : k < ks'.length := by lia
    obtain ⟨j, a, t, hj, e, m1, m2⟩ := hmem _ (hp.mem_iff.mp (List.getElem_mem hk'))
    refine ⟨j, a, t, hj, ?_, by rw [List.getElem?_eq_getElem hk', e], m2⟩
    have hr := rise_eq (l := ks'.map rr) (n := n) (by rw [List.pairwise_map]; exact hs) (fun x hx => by
      obtain ⟨v, hv, rfl⟩ := List.mem_map.mp hx
      obtain ⟨j', a', t', hj', e', m1', _⟩ := hmem v (hp.mem_iff.mp hv)
      rw [hrr j' v hj' (by rw [e']; exact m1')]
      have := Rk.below j' (by lia)
      lia) (by rw [List.length_map, hl]) k (by rw [List.length_map]; exact hk')
    rw [List.getElem_map, e] at hr
    rw [← hr, hrr j _ hj m1]
end
end Mine
end

-- ZM
section
open PySem PySem.W PySem.Calls PyProof.Rows
set_option maxRecDepth 100000
namespace Mine
section
variable {w : World} {p : Program} {loose : List Str} {mean : ExcName → Option Value} {mg mb : Str → Option Value} {dp un : Nat} {gd : Option (List Code)} {outer : List Env} {base g h h' : Heap} {s : Shared} {V V1 V2 W W₀ : List (Addr × Obj)} {E : Value → Shared → Prop}
theorem zip_make {l c d : Addr} {tc ts : Tok} {items : Array Value} {nl : Nat} {Q : Value → Shared → Prop} (ml : (l, listOf items nl) ∈ W₀) (hdp : dp + 8 < recursionLimit) (hu : un + 130 < cLine) (St : Stand w p loose mean mg mb (kAt dp un gd outer) base outer g)
    (Vl : Led g s.heap ([(c, cntObj d 0 tc ts), (d, dictOf [] 0)] ++ W₀))
    (hQ : ∀ g' h' tk' z TI TO i1, KtsTurn (outer.filterMap (·.frame)) g g' → Led g' h' (ZV l z TI TO i1 c d 0 tc ts .none false .none .none ++ ((TI, pairObj (.ref i1) (.ref c)) :: W₀)) → Q (.ref z) { s with heap := h', toks := tk' }) :
    wpAny (model PG w) (kAt dp un gd outer) (call (.type "zip") [.ref l, .ref c]) Q E s := by
  refine callType_newIn (S := fun A R s => wpAny (model PG w) A.in1 (Builtin.«zip.__new__» ⟨[.type "zip", .ref l, .ref c], []⟩) (fun fin s' => ∃ v, fin = .done (.ret v) ∧ R (.ok (.ret v)) s') (fun e s' => R (.error e) s') s) F.called_zip (by decide) (F.typeCall_zip_2 _ _) (F.newCall_zip_2 _ _) (fun obj => F.args_object_init_3 obj _ _) F.entry_zip_new (.of_wp fun A R s h => h) ?_
  have hsub := sub_zip
  obtain ⟨c1, c2, c3, c4⟩ := look_cnt w
  have hL : s.heap.IsList l items := ⟨_, Vl.get (List.mem_append_right _ ml), rfl, nl, rfl⟩
  have nc : ∀ {A : Around} {E' : Value → Shared → Prop} {Q' : Value × List Value → Shared → Prop}, Q' (.type "zip", [.ref l, .ref c]) s → wpAny (model PG w) A (Builtin.SmallTypes.newClass "zip" ⟨[.type "zip", .ref l, .ref c], []⟩) Q' E' s := by
    intro A E' Q' h
    clear Vl hL
    obtain ⟨hp, gg, dd, tk, os⟩ := s
    wp_walk
    exact h
  show wpAny _ (kAt dp (un + 1 + 1) gd outer) (Builtin.«zip.__new__» ⟨[.type "zip", .ref l, .ref c], []⟩) _ _ _
  unfold Builtin.«zip.__new__»
  refine wpAny_bind (nc ?_)
  dsimp only
  rw [if_neg (by decide)]
  refine wpAny_bind ?_
  unfold Builtin.SmallTypes.iterAll
  simp only [List.forIn_cons, List.forIn_nil]
  refine wpAny_bind (wpAny_bind (wpAny_bind (wpAny_holding (wpAny_pyIter_list hL ?_))))
  have V₁ : Led g _ ((s.heap.objs.size, litObj l 0) :: ([(c, cntObj d 0 tc ts), (d, dictOf [] 0)] ++ W₀)) := Vl.push (litObj l 0)
  generalize hi1 : s.heap.objs.size = i1 at *
  generalize hh1 : s.heap.push { cls := .type "list_iterator", data := .fields #[Value.ref l, .int 0 0] } = h1 at *
  refine wpAny_pure ?_
  dsimp only
  refine wpAny_bind (wpAny_bind (wpAny_holding ?_))
  have hc := V₁.get (a := c) (.tail _ (.head _))
  refine pyIter_own (s := { s with heap := h1 }) St.X V₁.S.keep hc rfl c1 c3 c2 ?_
  refine does_call (s := { s with heap := h1 }) (W := []) cnt_iter (St.around (A₀ := kAt dp (un + 1 + 1) gd outer) rfl) (by simpa using V₁.S) (fun _ hq => nomatch hq) hdp (by lia) (fun g' h' tk' v' V' hP T' S' _ => ?_) (fun _ _ _ _ _ hP => by cases hP.1)
  obtain ⟨hv, rfl⟩ := hP
  cases hv
  rw [List.append_nil] at S'
  have V₂ : Led g' h' ((i1, litObj l 0) :: ([(c, cntObj d 0 tc ts), (d, dictOf [] 0)] ++ W₀)) := ⟨S', V₁.nd⟩
  refine ⟨rfl, ⟨g', (St.turn T').X, S'.keep⟩, V₂.get (.tail _ (.head _)), ?_⟩
  refine wpAny_pure (wpAny_pure (wpAny_pure ?_))
  dsimp only
  refine wpAny_bind (wpAny_newTuple ?_ (hsz := by show 2 ≤ sizeLine; decide))
  have V₃ := V₂.push (pairObj (.ref i1) (.ref c))
  refine wpAny_bind (wpAny_newTuple ?_ (hsz := by show 2 ≤ sizeLine; decide))
  have V₄ := V₃.push (pairObj .none .none)
  show wpAny _ _ (newObj (.type "zip") (.fields #[.none, .bool false, .bool false, .ref h'.objs.size, .ref (h'.push (pairObj (.ref i1) (.ref c))).objs.size]) >>= _) _ _ { s with heap := (h'.push (pairObj (.ref i1) (.ref c))).push (pairObj .none .none), toks := tk' }
  refine wpAny_bind (wpAny_newObj_type ?_)
  have V₅ := V₄.push (zipObj .none false h'.objs.size (h'.push (pairObj (.ref i1) (.ref c))).objs.size)
  refine wpAny_pure ⟨_, rfl, ⟨_, V₅.get (.head _), rfl⟩, ?_⟩
  generalize h'.objs.size = TI at *
  generalize (h'.push (pairObj (.ref i1) (.ref c))).objs.size = TO at *
  generalize ((h'.push (pairObj (.ref i1) (.ref c))).push (pairObj .none .none)).objs.size = z at *
  refine hQ g' _ tk' z TI TO i1 T' (V₅.perm ?_)
  have p1 : ([(z, zipObj .none false TI TO), (TO, pairObj .none .none), (TI, pairObj (.ref i1) (.ref c)), (i1, litObj l 0)] ++ [(c, cntObj d 0 tc ts), (d, dictOf [] 0)]).Perm
      ([(c, cntObj d 0 tc ts), (d, dictOf [] 0)] ++ [(z, zipObj .none false TI TO), (TO, pairObj .none .none), (TI, pairObj (.ref i1) (.ref c)), (i1, litObj l 0)]) := List.perm_append_comm
  have p2 : ([(c, cntObj d 0 tc ts), (d, dictOf [] 0), (z, zipObj .none false TI TO), (TO, pairObj .none .none)] ++ [(TI, pairObj (.ref i1) (.ref c)), (i1, litObj l 0)]).Perm
      ([(c, cntObj d 0 tc ts), (d, dictOf [] 0), (z, zipObj .none false TI TO), (TO, pairObj .none .none)] ++ [(i1, litObj l 0), (TI, pairObj (.ref i1) (.ref c))]) := (List.Perm.swap _ _ _).append_left _
  exact (p1.trans p2).append_right W₀
end
end Mine
end

-- ZF
section
open PySem PySem.W PySem.Calls PyProof.Rows
set_option maxRecDepth 100000
namespace Mine
section
variable {s : Shared} {w : World} {p : Program} {loose : List Str} {mean : ExcName → Option Value} {mg mb : Str → Option Value} {A₀ A : Around} {base h₀ : Heap} {outer : List Env} {L a : Addr} {m : Str → Option Value} {cn : Str} {cs : Scope} {ccd : Value} {dp un : Nat} {gd : Option (List Code)} {E : Value → Shared → Prop} {Q : Value → Shared → Prop}
theorem Led.news {g h : Heap} {V : List (Addr × Obj)} (S : Sits g h V) (nd : (V.map (·.1)).Nodup) : Led g h V := ⟨S, nd⟩
theorem zip_frame {l c d : Addr} {tc ts : Tok} {items : Array Value} {nl : Nat}
    (B : Below A₀ base outer h₀) (F : Fr h₀ L s.heap m) (X₀ : (hd.heap_39 w.params).In h₀) (N : News h₀ L s.heap [(c, cntObj d 0 tc ts), (d, dictOf [] 0), (l, listOf items nl)]) (T : Top p loose mean mg mb h₀) (XB : (hd.heap_39 w.params).In base) (TB : Top p loose mean mg mb base)
    (D : KtsDicts (outer.filterMap (·.frame)) h₀) (hA : A = kAt dp un gd (envOf cn cs L a ccd :: outer)) (hck : cs.kind = .function) (n1 : @Ne Nat c d) (n2 : @Ne Nat c l) (n3 : @Ne Nat d l) (hdp : dp + 8 < recursionLimit) (hu : un + 130 < cLine)
    (hQ : ∀ h₀' h' tk' z TI TO i1, KtsTurn (outer.filterMap (·.frame)) h₀ h₀' → Fr h₀' L h' m → News h₀' L h' (ZV l z TI TO i1 c d 0 tc ts .none false .none .none ++ [(TI, pairObj (.ref i1) (.ref c)), (l, listOf items nl)]) →
      ((ZV l z TI TO i1 c d 0 tc ts .none false .none .none ++ [(TI, pairObj (.ref i1) (.ref c)), (l, listOf items nl)]).map (·.1)).Nodup →
      Below A₀ base outer h₀' → (hd.heap_39 w.params).In h₀' → Top p loose mean mg mb h₀' → KtsDicts (outer.filterMap (·.frame)) h₀' → Q (.ref z) { s with heap := h', toks := tk' }) :
    wpAny (model PG w) A (call (.type "zip") [.ref l, .ref c]) Q E s := by
  subst hA
  obtain ⟨g, b₂, S, V, _, _, back⟩ := bridge (A := kAt dp un gd (envOf cn cs L a ccd :: outer)) (W := []) B F X₀ N T XB TB D rfl hck (fun _ h => h) (fun _ h => nomatch h) (fun _ h => nomatch h)
  refine zip_make (W₀ := [(l, listOf items nl)]) (.head _) hdp hu S ⟨V, ?_⟩ fun g' h' tk' z TI TO i1 T' V' => ?_
  · simp only [List.cons_append, List.nil_append, List.map_cons, List.map_nil, List.nodup_cons, List.mem_cons, List.mem_nil_iff, or_false, not_or, List.nodup_nil, and_true, not_false_eq_true]
    exact ⟨⟨n1, n2⟩, n3⟩
  · obtain ⟨h₀', T₂, F', N', B', X', T'', D', _⟩ := back g' h' _ T' V'.S
    rw [List.append_nil] at N'
    exact hQ h₀' h' tk' z TI TO i1 T₂ F' N' V'.nd B' X' T'' D'

theorem sorted_frame {l z TI TO i1 c d : Addr} {tc ts : Tok} {vs : List Value} {nl : Nat} {ρ : Nat → Nat} (h66 : vs.length ≤ 66) (h2 : 2 ≤ vs.length) (Rk : Ranked w base vs ρ)
    (B : Below A₀ base outer h₀) (F : Fr h₀ L s.heap m) (X₀ : (hd.heap_39 w.params).In h₀) (N : News h₀ L s.heap (ZV l z TI TO i1 c d 0 tc ts .none false .none .none ++ [(TI, pairObj (.ref i1) (.ref c)), (l, listOf vs.toArray nl)]))
    (nd : ((ZV l z TI TO i1 c d 0 tc ts .none false .none .none ++ [(TI, pairObj (.ref i1) (.ref c)), (l, listOf vs.toArray nl)]).map (·.1)).Nodup)
    (T : Top p loose mean mg mb h₀) (XB : (hd.heap_39 w.params).In base) (TB : Top p loose mean mg mb base)
    (D : KtsDicts (outer.filterMap (·.frame)) h₀) (hA : A = kAt dp un gd (envOf cn cs L a ccd :: outer)) (hck : cs.kind = .function) (hdp : dp + 8 < recursionLimit) (hu : un + 130 < cLine)
    (hQ : ∀ h₀' h' tk' D ks c' TL, KtsTurn (outer.filterMap (·.frame)) h₀ h₀' → Fr h₀' L h' m → News h₀' L h' ((D, listOf (List.toArray ks) c') :: (l, listOf vs.toArray nl) :: TL) →
      (((D, listOf (List.toArray ks) c') :: (l, listOf vs.toArray nl) :: TL).map (·.1)).Nodup → ks.length = vs.length →
      (∀ k, k < vs.length → ∃ j T t, j < vs.length ∧ ρ j = k ∧ ks[k]? = some (.ref T) ∧ (T, pairObj (vs.getD j .none) (.int (j : Int) t)) ∈ TL) → AllLt D TL →
      Below A₀ base outer h₀' → (hd.heap_39 w.params).In h₀' → Top p loose mean mg mb h₀' → KtsDicts (outer.filterMap (·.frame)) h₀' → Q (.ref D) { s with heap := h', toks := tk' }) :
    wpAny (model PG w) A (call (.builtin "sorted") [.ref z] [(Str.ofString "reverse", .bool false)]) Q E s := by
  subst hA
  obtain ⟨g, b₂, S, V, hbb, _, back⟩ := bridge (A := kAt dp un gd (envOf cn cs L a ccd :: outer)) (W := []) B F X₀ N T XB TB D rfl hck (fun _ h => h) (fun _ h => nomatch h) (fun _ h => nomatch h)
  have hb : ∀ g', KtsTurn ((envOf cn cs L a ccd :: outer).filterMap (·.frame)) g g' → base.StaysIn g' := fun g' T' b o e => (S.turn T').B.stays _ _ (hbb _ _ e)
  refine sorted_zip (W₀ := [(TI, pairObj (.ref i1) (.ref c)), (l, listOf vs.toArray nl)]) (n := vs.length) rfl h66 h2 Rk hb (.head _) (.tail _ (.head _)) hdp hu S ⟨V, nd⟩ fun g' h' tk' D' ks c' TL T' V' hl hk hlt => ?_
  have V₂ : Led g' h' ((D', listOf (List.toArray ks) c') :: (l, listOf vs.toArray nl) :: TL) := by
    have e1 : ((D', listOf (List.toArray ks) c') :: TL ++ [(TI, pairObj (.ref i1) (.ref c)), (l, listOf vs.toArray nl)]).Perm ((TI, pairObj (.ref i1) (.ref c)) :: (D', listOf (List.toArray ks) c') :: (l, listOf vs.toArray nl) :: TL) := by
      refine List.Perm.trans (List.Perm.cons _ List.perm_append_comm) ?_
      exact List.Perm.swap _ _ _
    exact (V'.perm e1).right (V1 := [_])
  obtain ⟨h₀', T₂, F', N', B', X', T'', D'', _⟩ := back g' h' _ T' V₂.S
  rw [List.append_nil] at N'
  exact hQ h₀' h' tk' D' ks c' TL T₂ F' N' V₂.nd hl hk (allLt_of hlt) B' X' T'' D''
end
end Mine
end

-- LP
section
open PySem PySem.W PySem.Calls PyProof.Rows
set_option maxRecDepth 100000
namespace Mine
theorem Asks.mono {w : World} {b b' : Heap} {x y : Value} {t : Bool} (h : Asks w b x y t) (k : b.StaysIn b') : Asks w b' x y t := by
  obtain ⟨h1, h2, c, h3, h4, h5⟩ := h
  exact ⟨h1, h2, c, h3, fun st => h4 fun a o e => st a o (k a o e), fun hc _ _ _ _ st => h5 hc fun a o e => st a o (k a o e)⟩

/-- the sorted pairs: k-th key and place -/
structure Srt (vs : List Value) (ρ : Nat → Nat) (ks : List Value) (TL : List (Addr × Obj)) : Prop where
  len : ks.length = vs.length
  all : ∀ k, k < vs.length → ∃ j T t, j < vs.length ∧ ρ j = k ∧ ks[k]? = some (.ref T) ∧ (T, pairObj (vs.getD j .none) (.int (j : Int) t)) ∈ TL

abbrev gbL (gb dg itr ig di tu : Addr) (go io : Obj) (t7 : Tok) : List (Addr × Obj) := [(gb, go), (dg, dictOf [] 0), (itr, io), (ig, igObj di tu), (di, dictOf [] 0), (tu, tup0 t7)]

/-- the groupby at the head of turn k -/
inductive Hd (gb dg itr ig vp : Addr) (n : Nat) (key : Nat → Value) (Tk : Nat → Addr) : Nat → Obj → Obj → Prop where
  | start (ser : Int) (t1 t2 : Tok) : Hd gb dg itr ig vp n key Tk 0 (gbObj dg 0 t1 (some .none) (some .none) false false false (.ref itr) (.ref ig) ser t2 (some .none)) (litObj vp ((0 : Nat) : Int))
  | more (k : Nat) (hk : k + 1 < n) (num ser : Int) (t1 t2 : Tok) : Hd gb dg itr ig vp n key Tk (k + 1) (gbObj dg num t1 (some (key (k + 1))) (some (.ref (Tk (k + 1)))) true true true (.ref itr) (.ref ig) ser t2 (some (key k))) (litObj vp ((k + 2 : Nat) : Int))
  | over (num ser : Int) (t1 t2 : Tok) (k : Nat) (hk : k + 1 = n) : Hd gb dg itr ig vp n key Tk (k + 1) (gbObj dg num t1 (some .none) (some .none) false false true (.ref itr) (.ref ig) ser t2 (some (key k))) (litOver ((k + 1 : Nat) : Int))

section
variable {w : World} {p : Program} {loose : List Str} {mean : ExcName → Option Value} {mg mb : Str → Option Value} {dp un : Nat} {gd : Option (List Code)} {outer : List Env} {base g : Heap} {s : Shared} {E : Value → Shared → Prop}
/-- what the groupby walks over -/
structure Over (w : World) (b : Heap) (vp : Addr) (ks : List Value) (n : Nat) (key : Nat → Value) (Tk : Nat → Addr) : Prop where
  len : ks.length = n
  lst : b.IsList vp ks.toArray
  at_ : ∀ k, k < n → ks.toArray[k]? = some (.ref (Tk k))
  tup : ∀ k, k < n → ∃ v, IsTup b (Tk k) #[key k, v]
  hand : ∀ k, k < n → handedIn (key k) = true
  asks : ∀ i j, i < n → j < n → Asks w b (key i) (key j) (decide (i = j))

/-- the next of the groupby gives item k -/
theorem gb_next {gb dg itr ig di tu vp : Addr} {t7 : Tok} {go io : Obj} {ks : List Value} {n k : Nat} {key : Nat → Value} {Tk : Nat → Addr} (D : GbApart gb dg itr ig di tu) (O : Over w base vp ks n key Tk) (H : Hd gb dg itr ig vp n key Tk k go io) (hk : k < n) :
    Does w 14 base 120 [.ref gb] (gbL gb dg itr ig di tu go io t7) (fun r V' => ∃ (D gr dgr : Nat) (num : Int) (t1 t2 t3 : Tok), r = some (.ref D) ∧ (@LT.lt Nat _ gb dgr ∧ @LT.lt Nat _ dg dgr ∧ @LT.lt Nat _ itr dgr ∧ @LT.lt Nat _ ig dgr ∧ @LT.lt Nat _ di dgr ∧ @LT.lt Nat _ tu dgr) ∧ @LT.lt Nat _ dgr gr ∧ @LT.lt Nat _ gr D ∧
      V' = (D, { cls := .type "tuple", data := .seq #[key k, .ref gr] }) :: (gr, grObj dgr gb (key k) num t3) :: (dgr, dictOf [] 0) :: gbL gb dg itr ig di tu (gbObj dg num t1 (some (key k)) (some (.ref (Tk k))) true true true (.ref itr) (.ref ig) num t2 (some (key k))) (litObj vp ((k + 1 : Nat) : Int)) t7) := by
  intro p loose mean mg mb dp un gd outer g s R S V hd hu hq he
  cases H with
  | start ser t1 t2 =>
    obtain ⟨v, hv⟩ := O.tup 0 hk
    refine next_first D O.lst (O.at_ 0 hk) hv (O.hand 0 hk) S V hd hu (fun g' h' tk' r V' hP => ?_) (fun h' tk' e V' hP => ?_)
    · obtain ⟨D', gr, dgr, a1, a2, a3, b1, b2, b3, b4, b5⟩ := hP
      exact hq g' h' tk' r V' ⟨D', gr, dgr, _, a1, a2, a3, b1, b2, b3, b4, b5⟩
    · obtain ⟨_, _, _, _, _, _, b1, _⟩ := hP
      cases b1
  | more k' hk' num ser t1 t2 =>
    have K := O.asks k' (k' + 1) (by lia) hk'
    rw [decide_eq_false (by lia)] at K
    refine next_more D K S V hd hu (fun g' h' tk' r V' hP => ?_) (fun h' tk' e V' hP => ?_)
    · obtain ⟨D', gr, dgr, a1, a2, a3, b1, b2, b3, b4, b5⟩ := hP
      exact hq g' h' tk' r V' ⟨D', gr, dgr, _, a1, a2, a3, b1, b2, b3, b4, b5⟩
    · obtain ⟨_, _, _, _, _, _, b1, _⟩ := hP
      cases b1
  | over num ser t1 t2 k' hk' => exact absurd hk (by lia)

theorem look_gr (w : World) : findIn (hd.heap_39 w.params) (.ref 169) "__iter__" = some (some (.ref 158)) ∧ findIn (hd.heap_39 w.params) (.ref 169) "__next__" = some (some (.ref 165)) ∧ typeIn (hd.heap_39 w.params) (.ref 158) = some (.type "function") ∧ typeIn (hd.heap_39 w.params) (.ref 165) = some (.type "function") ∧
    findIn (hd.heap_39 w.params) (.ref 169) "__len__" = some none ∧ findIn (hd.heap_39 w.params) (.ref 169) "__length_hint__" = some none := ⟨by rfl, by rfl, by rfl, by rfl, by rfl, by rfl⟩
theorem look_gb2 (w : World) : typeIn (hd.heap_39 w.params) (.ref 106) = some (.type "function") ∧ typeIn (hd.heap_39 w.params) (.ref 120) = some (.type "function") := ⟨by rfl, by rfl⟩

/-- list of the k-th group: its one pair -/
theorem gr_list {gb dg itr ig di tu vp gr dgr : Addr} {t1 t2 t3 t7 : Tok} {num : Int} {ks : List Value} {n k : Nat} {key : Nat → Value} {Tk : Nat → Addr} {Q : Value → Shared → Prop} (D : GbApart gb dg itr ig di tu) (O : Over w base vp ks n key Tk) (hk : k < n)
    (ap : ∀ q ∈ [gr, dgr], ∀ r ∈ [gb, dg, itr, ig, di, tu], @Ne Nat q r) (S : Stand w p loose mean mg mb (kAt dp un gd outer) base outer g)
    (V : Sits g s.heap ((gr, grObj dgr gb (key k) num t3) :: (dgr, dictOf [] 0) :: gbL gb dg itr ig di tu (gbObj dg num t1 (some (key k)) (some (.ref (Tk k))) true true true (.ref itr) (.ref ig) num t2 (some (key k))) (litObj vp ((k + 1 : Nat) : Int)) t7))
    (hdp : dp + 14 < recursionLimit) (hu : un + 150 < cLine)
    (hQ : ∀ g' h' tk' L c go io, Hd gb dg itr ig vp n key Tk (k + 1) go io → KtsTurn (outer.filterMap (·.frame)) g g' → Sits g' h' (gbL gb dg itr ig di tu go io t7 ++ [(L, listOf #[.ref (Tk k)] c)]) → (∀ r ∈ gbL gb dg itr ig di tu go io t7, L ≠ r.1) → Q (.ref L) { s with heap := h', toks := tk' }) :
    wpAny (model PG w) (kAt dp un gd outer) (call (.type "list") [.ref gr]) Q E s := by
  obtain ⟨l1, l2, l3, l4, l5, l6⟩ := look_gr w
  have K := O.asks k k hk hk
  rw [decide_eq_true rfl] at K
  rcases Nat.lt_or_ge (k + 1) n with h1 | h1
  · obtain ⟨v, hv⟩ := O.tup (k + 1) h1
    have K2 := O.asks k (k + 1) hk h1
    rw [decide_eq_false (by lia)] at K2
    refine list_one (need := 14) S V (.head _) (.head _) rfl l1 l2 l3 l4 l5 l6 (fun _ _ _ _ _ _ _ _ _ _ _ _ S' V' hd' hu' hq' he' => gr_iter S' V' (by lia) (by lia) hq' he') (gr_first D K ap) (gr_differs D K2 ap O.lst (O.at_ (k + 1) h1) hv (O.hand (k + 1) h1)) hdp (by lia) fun g' h' tk' L c T' S' n' => ?_
    exact hQ g' h' tk' L c _ _ (.more k h1 num num t1 t2) T' S' n'
  · have e : k + 1 = n := by lia
    have hend : Ends PG w base itr (litObj vp ((k + 1 : Nat) : Int)) (litOver ((k + 1 : Nat) : Int)) := ends_last O.lst (by simp [O.len]; lia)
    refine list_one (need := 14) S V (.head _) (.head _) rfl l1 l2 l3 l4 l5 l6 (fun _ _ _ _ _ _ _ _ _ _ _ _ S' V' hd' hu' hq' he' => gr_iter S' V' (by lia) (by lia) hq' he') (gr_first D K ap) (gr_over D hend) hdp (by lia) fun g' h' tk' L c T' S' n' => ?_
    exact hQ g' h' tk' L c _ _ (.over num num t1 t2 k e) T' S' n'

theorem gb_done {gb dg itr ig di tu vp : Addr} {t7 : Tok} {go io : Obj} {n : Nat} {key : Nat → Value} {Tk : Nat → Addr} (D : GbApart gb dg itr ig di tu) (h0 : 0 < n) (H : Hd gb dg itr ig vp n key Tk n go io) :
    Does w 14 base 120 [.ref gb] (gbL gb dg itr ig di tu go io t7) (fun r V' => r = none ∧ ∃ go', V' = gbL gb dg itr ig di tu go' io t7) := by
  intro p loose mean mg mb dp un gd outer g s R S V hd hu hq he
  generalize hn : n = k at H
  cases H with
  | start ser t1 t2 => lia
  | more k' hk' num ser t1 t2 => lia
  | over num ser t1 t2 k' hk' =>
    refine next_over D ends_over S V hd hu (fun g' h' tk' r V' hP => ?_) (fun h' tk' e V' hP => ?_)
    · cases hP.1
    · obtain ⟨_, t, b⟩ := hP
      exact he h' tk' e V' ⟨rfl, _, b⟩
end
section
variable {w : World} {p : Program} {loose : List Str} {mean : ExcName → Option Value} {mg mb : Str → Option Value} {dp un : Nat} {gd : Option (List Code)} {A₀ : Around} {outer : List Env} {base : Heap} {L a : Addr} {cn : Str} {cs : Scope} {ccd : Value} {s₀ : Shared}

/-- a frame as it stands in a loop -/
structure Fram (w : World) (p : Program) (loose : List Str) (mean : ExcName → Option Value) (mg mb : Str → Option Value) (A₀ : Around) (base : Heap) (outer : List Env) (L : Addr) (hh h₀ h : Heap) (m : Str → Option Value) (V : List (Addr × Obj)) : Prop where
  T0 : KtsTurn (outer.filterMap (·.frame)) hh h₀
  F : Fr h₀ L h m
  N : News h₀ L h V
  B : Below A₀ base outer h₀
  X : (hd.heap_39 w.params).In h₀
  T : Top p loose mean mg mb h₀
  XB : (hd.heap_39 w.params).In base
  TB : Top p loose mean mg mb base
  D : KtsDicts (outer.filterMap (·.frame)) h₀

theorem letGo_own {M : Model} {A : Around} {E : Value → Shared → Prop} {s : Shared} {Q : Unit → Shared → Prop} {target : Expr} {x C v : Addr} {o : Obj} (hx : s.heap.get? x = some o) (hc : o.cls = .ref C) (h : Q () s) : wpAny M A (letOwnedTupleGo target (.ref x) (.ref v)) Q E s := by
  have go := fun (K : Obj → Sem Unit) (hk : ∀ d y z, K ⟨.ref C, d, y, z⟩ = pure ()) => show wpAny M A (load x >>= K) Q E s from wpAny_bind (wpAny_load hx (by
    obtain ⟨c, d, y, z⟩ := o
    cases hc
    rw [hk]
    exact wpAny_pure h))
  cases target <;> first | exact wpAny_pure h | exact go _ fun _ _ _ => rfl

/-- what stands at the end of a turn -/
structure Post (P : Prop) : Prop where
  get : P

theorem hd_cls {gb dg itr ig vp : Addr} {n k : Nat} {key : Nat → Value} {Tk : Nat → Addr} {go io : Obj} (H : Hd gb dg itr ig vp n key Tk k go io) : go.cls = .ref 124 := by cases H <;> rfl
/-- six at once: taken apart in one step -/
inductive Ex6 {α β γ δ ε ζ : Type} (P : α → β → γ → δ → ε → ζ → Prop) : Prop
  | mk (a : α) (b : β) (c : γ) (d : δ) (e : ε) (f : ζ) (h : P a b c d e f) : Ex6 P
/-- the loop over a groupby, whatever its body -/
theorem for_gb {target : Expr} {body : List Stmt} {env : Env} {R : Result → Shared → Prop} {hh : Heap} {gb dg itr ig di tu vp : Addr} {t7 : Tok} {ks : List Value} {n c : Nat} {key : Nat → Value} {Tk : Nat → Addr} {J : Nat → (Str → Option Value) → List (Addr × Obj) → Prop}
    (henv : env = envOf cn cs L a ccd) (hck : cs.kind = .function) (hdp : dp + 14 < recursionLimit) (hu : un + 150 < cLine) (D : GbApart gb dg itr ig di tu) (h0 : 0 < n)
    (hO : ∀ k m W (b : Heap), J k m W → base.StaysIn b → (∀ q ∈ W, b.get? q.1 = some q.2) → Over w b vp ks n key Tk)
    (hW : ∀ k m W, J k m W → ∀ q ∈ W, q.1 ≠ gb ∧ q.1 ≠ dg ∧ q.1 ≠ itr ∧ q.1 ≠ ig ∧ q.1 ≠ di ∧ q.1 ≠ tu)
    (turn : ∀ k m W s' h₀ (D' gr dgr : Nat) (num : Int) (t1 t2 t3 : Tok), k < n → J k m W → (@LT.lt Nat _ gb dgr ∧ @LT.lt Nat _ dg dgr ∧ @LT.lt Nat _ itr dgr ∧ @LT.lt Nat _ ig dgr ∧ @LT.lt Nat _ di dgr ∧ @LT.lt Nat _ tu dgr) → @LT.lt Nat _ dgr gr → @LT.lt Nat _ gr D' →
      (∀ q ∈ W, q.1 ≠ D' ∧ q.1 ≠ gr ∧ q.1 ≠ dgr) →
      Fram w p loose mean mg mb A₀ base outer L hh h₀ s'.heap m ((D', { cls := .type "tuple", data := .seq #[key k, .ref gr] }) :: (gr, grObj dgr gb (key k) num t3) :: (dgr, dictOf [] 0) :: gbL gb dg itr ig di tu (gbObj dg num t1 (some (key k)) (some (.ref (Tk k))) true true true (.ref itr) (.ref ig) num t2 (some (key k))) (litObj vp ((k + 1 : Nat) : Int)) t7 ++ W) →
      s' = { s₀ with heap := s'.heap, toks := s'.toks } →
      wpAny (model PG w) (kAt dp un gd (envOf cn cs L a ccd :: outer)) (assign target env (.ref D')) (fun _ s₂ => wpAny (model PG w) (kAt dp un gd (envOf cn cs L a ccd :: outer)) (execs body env) (fun f s₃ => Post (f = .next ∧
          ∃ h₀' m' W' go io, Hd gb dg itr ig vp n key Tk (k + 1) go io ∧ J (k + 1) m' W' ∧ Fram w p loose mean mg mb A₀ base outer L hh h₀' s₃.heap m' (gbL gb dg itr ig di tu go io t7 ++ W') ∧ s₃ = { s₀ with heap := s₃.heap, toks := s₃.toks }))
        (notedBy (model PG w) (kAt dp un gd (envOf cn cs L a ccd :: outer)) env fun e s' => R (.error e) s') s₂) (notedBy (model PG w) (kAt dp un gd (envOf cn cs L a ccd :: outer)) env fun e s' => R (.error e) s') s')
    (fin : ∀ m W h₀ s', J n m W → Fram w p loose mean mg mb A₀ base outer L hh h₀ s'.heap m W → s' = { s₀ with heap := s'.heap, toks := s'.toks } → R (.ok .next) s')
    {m : Str → Option Value} {W : List (Addr × Obj)} {go io : Obj} {h₀ : Heap} (hJ : J 0 m W) (hH : Hd gb dg itr ig vp n key Tk 0 go io) (hF : Fram w p loose mean mg mb A₀ base outer L hh h₀ s₀.heap m (gbL gb dg itr ig di tu go io t7 ++ W)) :
    codeAny (model PG w) (kAt dp un gd (envOf cn cs L a ccd :: outer)) (.forLoop target (.ref gb) body [] env) R s₀ := by
  subst henv
  refine codeAny_forLoop_any (I := fun j s' => Ex6 fun k h₀ m W go io => k + j = n ∧ Hd gb dg itr ig vp n key Tk k go io ∧ J k m W ∧ Fram w p loose mean mg mb A₀ base outer L hh h₀ s'.heap m (gbL gb dg itr ig di tu go io t7 ++ W) ∧ s' = { s₀ with heap := s'.heap, toks := s'.toks })
    (fun j s' hI => ?_) n ⟨0, h₀, m, W, go, io, Nat.zero_add n, hH, hJ, hF, rfl⟩
  obtain ⟨k, h₀, m, W, go, io, hI⟩ := hI
  have hk := hI.1
  have H := hI.2.1
  have hJ := hI.2.2.1
  have FF := hI.2.2.2.1
  have hs := hI.2.2.2.2
  obtain ⟨l1, l2⟩ := look_gb w
  obtain ⟨l3, l4⟩ := look_gb2 w
  have ap : ∀ q ∈ W, ∀ r ∈ gbL gb dg itr ig di tu go io t7, q.1 ≠ r.1 := fun q hq r hr => by
    have := hW k m W hJ q hq
    simp only [gbL, List.mem_cons, List.mem_nil_iff, or_false] at hr
    rcases hr with rfl | rfl | rfl | rfl | rfl | rfl
    · exact this.1
    · exact this.2.1
    · exact this.2.2.1
    · exact this.2.2.2.1
    · exact this.2.2.2.2.1
    · exact this.2.2.2.2.2
  obtain ⟨g, b₂, S, V, hbb, hWb, back⟩ := bridge (s := s') (A := kAt dp un gd (envOf cn cs L a ccd :: outer)) FF.B FF.F FF.X FF.N FF.T FF.XB FF.TB FF.D rfl hck (fun q hq => List.mem_append_left _ hq) (fun q hq => List.mem_append_right _ hq) ap
  have O := hO k m W b₂ hJ hbb hWb
  rcases Nat.lt_or_ge k n with h1 | h1
  · have goCls := hd_cls H
    refine pyNext_does (W := []) (gb_next D O H h1) S (by rw [List.append_nil]; exact V) (fun _ hq => nomatch hq) (.head _) goCls l2 l4 hdp (by lia) (fun g' h' tk' v V' hP T' S' _ => ?_) (fun g' h' tk' V' hP => ?_)
    · obtain ⟨D', gr, dgr, num, t1, t2, t3, hv, a1, a2, a3, rfl⟩ := hP
      cases hv
      rw [List.append_nil] at S'
      obtain ⟨h₀', T₂, F', N', B', X', T'', D'', n''⟩ := back g' h' _ T' S'
      have FR : Fram w p loose mean mg mb A₀ base outer L hh h₀' h' m _ := ⟨FF.T0.trans T₂, F', N', B', X', T'', FF.XB, FF.TB, D''⟩
      refine letGo_own (C := 124) (N' _ (.tail _ (.tail _ (.tail _ (.head _))))).1 rfl ?_
      have tt := turn k m W { s' with heap := h', toks := tk' } h₀' D' gr dgr num t1 t2 t3 h1 hJ a1 a2 a3 (fun q hq => ⟨n'' q hq _ (.head _), n'' q hq _ (.tail _ (.head _)), n'' q hq _ (.tail _ (.tail _ (.head _)))⟩) FR (by rw [hs])
      refine wpAny_mono tt (fun _ s₂ h₂ => wpAny_mono h₂ (fun f s₃ h₃ => ?_) fun _ _ x => x) fun _ _ x => x
      obtain ⟨rfl, h₀2, m2, W2, go2, io2, H2, J2, F2, e2⟩ := h₃.get
      exact ⟨j - 1, by lia, k + 1, h₀2, m2, W2, go2, io2, by lia, H2, J2, F2, e2⟩
    · obtain ⟨_, _, _, _, _, _, _, b1, _⟩ := hP
      cases b1
  · have e : k = n := by lia
    subst e
    have goCls := hd_cls H
    refine pyNext_does (W := []) (gb_done D h0 H) S (by rw [List.append_nil]; exact V) (fun _ hq => nomatch hq) (.head _) goCls l2 l4 hdp (by lia) (fun g' h' tk' v V' hP => ?_) (fun g' h' tk' V' hP T' S' _ => ?_)
    · cases hP.1
    · obtain ⟨_, go', rfl⟩ := hP
      rw [List.append_nil] at S'
      obtain ⟨h₀', T₂, F', N', B', X', T'', D'', n''⟩ := back g' h' _ T' S'
      have FR : Fram w p loose mean mg mb A₀ base outer L hh h₀' h' m W := ⟨FF.T0.trans T₂, F', fun q hq => N' q (List.mem_append_right _ hq), B', X', T'', FF.XB, FF.TB, D''⟩
      exact wpAny_execs_nil (fin m W h₀' { s' with heap := h', toks := tk' } hJ FR (by rw [hs]))

/-- iter of the groupby, in a frame -/
theorem iter_gb {E : Value → Shared → Prop} {Q : Value → Shared → Prop} {s : Shared} {h₀ : Heap} {A : Around} {m : Str → Option Value} {gb : Addr} {o : Obj} {W : List (Addr × Obj)} (B : Below A₀ base outer h₀) (F : Fr h₀ L s.heap m) (X₀ : (hd.heap_39 w.params).In h₀) (N : News h₀ L s.heap W) (T : Top p loose mean mg mb h₀) (XB : (hd.heap_39 w.params).In base) (TB : Top p loose mean mg mb base)
    (D : KtsDicts (outer.filterMap (·.frame)) h₀) (hA : A = kAt dp un gd (envOf cn cs L a ccd :: outer)) (hck : cs.kind = .function) (hm : (gb, o) ∈ W) (hc : o.cls = .ref 124) (hdp : dp + 8 < recursionLimit) (hu : un + 80 < cLine)
    (hQ : ∀ h₀' h' tk', Fram w p loose mean mg mb A₀ base outer L h₀ h₀' h' m W → Q (.ref gb) { s with heap := h', toks := tk' }) :
    wpAny (model PG w) A (pyIter (.ref gb)) Q E s := by
  subst hA
  obtain ⟨l1, l2⟩ := look_gb w
  obtain ⟨l3, l4⟩ := look_gb2 w
  obtain ⟨g, b₂, S, V, _, _, back⟩ := bridge (A := kAt dp un gd (envOf cn cs L a ccd :: outer)) (V := W) (W := []) B F X₀ N T XB TB D rfl hck (fun _ h => h) (fun _ h => nomatch h) (fun _ h => nomatch h)
  refine pyIter_own S.X V.keep (V.has _ hm).1 hc l1 l3 l2 ?_
  refine does_call (W := []) (gb_iter (V := W)) S (by rw [List.append_nil]; exact V) (fun _ hq => nomatch hq) hdp (by lia) (fun g' h' tk' v' V' hP T' S' _ => ?_) (fun _ _ _ _ _ hP => by cases hP.1)
  obtain ⟨hv, rfl⟩ := hP
  cases hv
  rw [List.append_nil] at S'
  obtain ⟨h₀', T₂, F', N', B', X', T'', D'', _⟩ := back g' h' _ T' S'
  rw [List.append_nil] at N'
  exact ⟨rfl, ⟨g', (S.turn T').X, S'.keep⟩, (S'.has _ hm).1, hQ h₀' h' tk' ⟨T₂, F', N', B', X', T'', XB, TB, D''⟩⟩

/-- list of the k-th group, in a frame -/
theorem list_gr {E : Value → Shared → Prop} {Q : Value → Shared → Prop} {s : Shared} {h₀ : Heap} {A : Around} {m : Str → Option Value} {gb dg itr ig di tu vp gr dgr : Addr} {t1 t2 t3 t7 : Tok} {num : Int} {ks : List Value} {n k : Nat} {key : Nat → Value} {Tk : Nat → Addr} {W W₀ : List (Addr × Obj)} (G : GbApart gb dg itr ig di tu) (hk : k < n)
    (hO : ∀ (b : Heap), base.StaysIn b → (∀ q ∈ W, b.get? q.1 = some q.2) → Over w b vp ks n key Tk) (ap : ∀ q ∈ [gr, dgr], ∀ r ∈ [gb, dg, itr, ig, di, tu], @Ne Nat q r)
    (B : Below A₀ base outer h₀) (F : Fr h₀ L s.heap m) (X₀ : (hd.heap_39 w.params).In h₀) (N : News h₀ L s.heap W₀) (T : Top p loose mean mg mb h₀) (XB : (hd.heap_39 w.params).In base) (TB : Top p loose mean mg mb base)
    (D : KtsDicts (outer.filterMap (·.frame)) h₀) (hA : A = kAt dp un gd (envOf cn cs L a ccd :: outer)) (hck : cs.kind = .function)
    (hV : ∀ q ∈ (gr, grObj dgr gb (key k) num t3) :: (dgr, dictOf [] 0) :: gbL gb dg itr ig di tu (gbObj dg num t1 (some (key k)) (some (.ref (Tk k))) true true true (.ref itr) (.ref ig) num t2 (some (key k))) (litObj vp ((k + 1 : Nat) : Int)) t7, q ∈ W₀) (hW : ∀ q ∈ W, q ∈ W₀)
    (hN : ∀ q ∈ W, q.1 ≠ gr ∧ q.1 ≠ dgr ∧ q.1 ≠ gb ∧ q.1 ≠ dg ∧ q.1 ≠ itr ∧ q.1 ≠ ig ∧ q.1 ≠ di ∧ q.1 ≠ tu) (hdp : dp + 14 < recursionLimit) (hu : un + 150 < cLine)
    (hQ : ∀ h₀' h' tk' l c go io, Hd gb dg itr ig vp n key Tk (k + 1) go io → Fram w p loose mean mg mb A₀ base outer L h₀ h₀' h' m ((l, listOf #[.ref (Tk k)] c) :: gbL gb dg itr ig di tu go io t7 ++ W) →
      (∀ r ∈ gbL gb dg itr ig di tu go io t7 ++ W, r.1 ≠ l) → Q (.ref l) { s with heap := h', toks := tk' }) :
    wpAny (model PG w) A (call (.type "list") [.ref gr]) Q E s := by
  subst hA
  obtain ⟨g, b₂, S, V, hbb, hWb, back⟩ := bridge (A := kAt dp un gd (envOf cn cs L a ccd :: outer)) B F X₀ N T XB TB D rfl hck hV hW (fun q hq r hr => by
    have := hN q hq
    simp only [gbL, List.mem_cons, List.mem_nil_iff, or_false] at hr
    rcases hr with rfl | rfl | rfl | rfl | rfl | rfl | rfl | rfl
    · exact this.1
    · exact this.2.1
    · exact this.2.2.1
    · exact this.2.2.2.1
    · exact this.2.2.2.2.1
    · exact this.2.2.2.2.2.1
    · exact this.2.2.2.2.2.2.1
    · exact this.2.2.2.2.2.2.2)
  refine gr_list G (hO b₂ hbb hWb) hk ap S V hdp hu fun g' h' tk' l c go io H T' S' n' => ?_
  obtain ⟨h₀', T₂, F', N', B', X', T'', D'', n''⟩ := back g' h' _ T' S'
  refine hQ h₀' h' tk' l c go io H ⟨T₂, F', fun q hq => N' q ?_, B', X', T'', XB, TB, D''⟩ fun r hr => ?_
  · rcases List.mem_cons.mp hq with rfl | hq
    · exact List.mem_append_left _ (List.mem_append_right _ (.head _))
    · rcases List.mem_append.mp hq with hq | hq
      · exact List.mem_append_left _ (List.mem_append_left _ hq)
      · exact List.mem_append_right _ hq
  · rcases List.mem_append.mp hr with hr | hr
    · exact (n' r hr).symm
    · exact n'' r hr _ (List.mem_append_right _ (.head _))
end
end Mine
end

-- LQ
section
open PySem PySem.W PySem.Calls PyProof.Rows
set_option maxRecDepth 100000
namespace Mine
theorem st_elim {s s₃ : Shared} {G : Prop} (hs : s₃ = { s with heap := s₃.heap, toks := s₃.toks }) (k : ∀ hh tt, s₃ = { s with heap := hh, toks := tt } → G) : G := k _ _ hs
theorem patch {m : Str → Option Value} {x : Str} {v : Value} (h : m x = some v) : m = fun y => if y = x then some v else m y := by
  funext y
  by_cases e : y = x
  · rw [if_pos e, e, h]
  · rw [if_neg e]
abbrev rngObj (x left step : Int) : Obj := { cls := .type "range_iterator", dict := none, data := .fields #[rawInt x, rawInt left, rawInt step], slots := #[] }
section
variable {w : World} {p : Program} {loose : List Str} {mean : ExcName → Option Value} {mg mb : Str → Option Value} {A A₀ : Around} {outer : List Env} {base : Heap} {L a I : Addr} {s₀ : Shared} {hh h₀ h h' : Heap} {m : Str → Option Value} {V V' : List (Addr × Obj)}

theorem letGo_it {M : Model} {E : Value → Shared → Prop} {s : Shared} {Q : Unit → Shared → Prop} {target : Expr} {x : Addr} {v : Value} {o : Obj} {n : String} (hx : s.heap.get? x = some o) (hc : o.cls = .type n)
    (hn : ["enumerate", "zip", "dict_itemiterator", "dict_reverseitemiterator", "odict_iterator", "itertools.zip_longest", "itertools.pairwise"].contains n = false) (h : Q () s) : wpAny M A (letOwnedTupleGo target (.ref x) v) Q E s := by
  have go := fun (K : Obj → Sem Unit) (hk : ∀ d y z, wpAny M A (K ⟨.type n, d, y, z⟩) Q E s) => show wpAny M A (load x >>= K) Q E s from wpAny_bind (wpAny_load hx (by
    obtain ⟨c, d, y, z⟩ := o
    cases hc
    exact hk _ _ _))
  have st : ∀ (vs : Array Value) (b : Addr), wpAny M A (if (["enumerate", "zip", "dict_itemiterator", "dict_reverseitemiterator", "odict_iterator", "itertools.zip_longest", "itertools.pairwise"].contains n && vs[0]? == some (rawInt b)) = true then do
          rule "for.unpacks-the-owned-tuple"
          updateField x 0 .none
        else pure ()) Q E s := fun vs b => by
    rw [hn]; exact wpAny_pure h
  cases target <;> first | exact wpAny_pure h | (cases v <;> first | exact wpAny_pure h | exact go _ fun d y z => (by cases y <;> first | exact wpAny_pure h | exact st _ _))

theorem Fram.sub (f : Fram w p loose mean mg mb A₀ base outer L hh h₀ h m V) (hV : ∀ q ∈ V', q ∈ V) : Fram w p loose mean mg mb A₀ base outer L hh h₀ h m V' :=
  ⟨f.T0, f.F, fun q hq => f.N q (hV q hq), f.B, f.X, f.T, f.XB, f.TB, f.D⟩
theorem Fram.but (f : Fram w p loose mean mg mb A₀ base outer L hh h₀ h m V) (I : Addr) (hI : h₀.get? I = none) (hIL : I ≠ L) (hV : ∀ q ∈ V, q.1 ≠ I) (k : ∀ b o, b ≠ I → h.get? b = some o → h'.get? b = some o) : Fram w p loose mean mg mb A₀ base outer L hh h₀ h' m V := by
  refine ⟨f.T0, ⟨?_, fun b o e => k b o (fun z => by rw [z, hI] at e; cases e) (f.F.keep b o e), f.F.above⟩, fun q hq => ⟨k _ _ (hV q hq) (f.N q hq).1, (f.N q hq).2⟩, f.B, f.X, f.T, f.XB, f.TB, f.D⟩
  obtain ⟨o, es, n, ho, hr⟩ := f.F.ns
  exact ⟨o, es, n, k _ _ (Ne.symm hIL) ho, hr⟩
theorem Fram.stays (f : Fram w p loose mean mg mb A₀ base outer L hh h₀ h m V) : base.StaysIn h := stays_of f.B f.F

/-- the loop over an iterator whose objects are known, whatever its body -/
theorem for_io {target : Expr} {body : List Stmt} {env : Env} {R : Result → Shared → Prop} {n : Nat} {io : Nat → Obj} {J : Nat → (Str → Option Value) → List (Addr × Obj) → Nat → Prop} {T : String} {It : Nat → Value → Nat → Nat → Prop}
    (hT : ∀ k, (io k).cls = .type T) (hTn : ["enumerate", "zip", "dict_itemiterator", "dict_reverseitemiterator", "odict_iterator", "itertools.zip_longest", "itertools.pairwise"].contains T = false)
    (next : ∀ k m W s' h₀ {Q : Option Value → Shared → Prop} {E : Value → Shared → Prop}, k < n → J k m W s'.toks → Fram w p loose mean mg mb A₀ base outer L hh h₀ s'.heap m ((I, io k) :: W) →
      (∀ v h' tk', It k v s'.toks tk' → h'.get? I = some (io (k + 1)) → (∀ b o, b ≠ I → s'.heap.get? b = some o → h'.get? b = some o) → Q (some v) { s' with heap := h', toks := tk' }) → wpAny (model PG w) A (pyNext (.ref I)) Q E s')
    (stop : ∀ m W s' h₀ {Q : Option Value → Shared → Prop} {E : Value → Shared → Prop}, J n m W s'.toks → Fram w p loose mean mg mb A₀ base outer L hh h₀ s'.heap m ((I, io n) :: W) →
      (∀ h', (∀ b o, b ≠ I → s'.heap.get? b = some o → h'.get? b = some o) → Q none { s' with heap := h' }) → wpAny (model PG w) A (pyNext (.ref I)) Q E s')
    (turn : ∀ k m W s' h₀ v t, k < n → It k v t s'.toks → J k m W t → (∀ q ∈ W, q.1 ≠ I) →
      Fram w p loose mean mg mb A₀ base outer L hh h₀ s'.heap m ((I, io (k + 1)) :: W) → s' = { s₀ with heap := s'.heap, toks := s'.toks } →
      wpAny (model PG w) A (assign target env v) (fun _ s₂ => wpAny (model PG w) A (execs body env) (fun f s₃ => Post (f = .next ∧
          ∃ h₀' m' W', J (k + 1) m' W' s₃.toks ∧ (∀ q ∈ W', q.1 ≠ I) ∧ Fram w p loose mean mg mb A₀ base outer L hh h₀' s₃.heap m' ((I, io (k + 1)) :: W') ∧ s₃ = { s₀ with heap := s₃.heap, toks := s₃.toks }))
        (notedBy (model PG w) A env fun e s' => R (.error e) s') s₂) (notedBy (model PG w) A env fun e s' => R (.error e) s') s')
    (fin : ∀ m W h₀ s', J n m W s'.toks → Fram w p loose mean mg mb A₀ base outer L hh h₀ s'.heap m W → s' = { s₀ with heap := s'.heap, toks := s'.toks } → R (.ok .next) s')
    {W : List (Addr × Obj)} (hJ : J 0 m W s₀.toks) (hW : ∀ q ∈ W, q.1 ≠ I) (hF : Fram w p loose mean mg mb A₀ base outer L hh h₀ s₀.heap m ((I, io 0) :: W)) :
    codeAny (model PG w) A (.forLoop target (.ref I) body [] env) R s₀ := by
  refine codeAny_forLoop_any (I := fun j s' => ∃ k h₀ m W, k + j = n ∧ J k m W s'.toks ∧ (∀ q ∈ W, q.1 ≠ I) ∧ Fram w p loose mean mg mb A₀ base outer L hh h₀ s'.heap m ((I, io k) :: W) ∧ s' = { s₀ with heap := s'.heap, toks := s'.toks })
    (fun j s' hI => ?_) n ⟨0, h₀, m, W, Nat.zero_add n, hJ, hW, hF, rfl⟩
  obtain ⟨k, h₀, m, W, hk, hJ, hW, FF, hs⟩ := hI
  have hIn := FF.N (I, io k) (.head _)
  rcases Nat.lt_or_ge k n with h1 | h1
  · refine next k m W s' h₀ h1 hJ FF fun v h' tk' hv hit hkeep => ?_
    have F0 : Fram w p loose mean mg mb A₀ base outer L hh h₀ s'.heap m W := FF.sub fun q hq => .tail _ hq
    have F1 := F0.but I hIn.2.2 hIn.2.1 hW hkeep
    have F2 : Fram w p loose mean mg mb A₀ base outer L hh h₀ h' m ((I, io (k + 1)) :: W) := ⟨F1.T0, F1.F, fun q hq => by
      rcases List.mem_cons.mp hq with rfl | hq
      · exact ⟨hit, hIn.2⟩
      · exact F1.N q hq, F1.B, F1.X, F1.T, F1.XB, F1.TB, F1.D⟩
    refine letGo_it (o := io (k + 1)) hit (hT _) hTn ?_
    have tt := turn k m W { s' with heap := h', toks := tk' } h₀ v s'.toks h1 hv hJ hW F2 (by rw [hs])
    refine wpAny_mono tt (fun _ s₂ h₂ => wpAny_mono h₂ (fun f s₃ h₃ => ?_) fun _ _ x => x) fun _ _ x => x
    obtain ⟨rfl, h₀2, m2, W2, J2, hW2, F2, e2⟩ := h₃.get
    exact ⟨j - 1, by lia, k + 1, h₀2, m2, W2, by lia, J2, hW2, F2, e2⟩
  · have e : k = n := by lia
    subst e
    refine stop m W s' h₀ hJ FF fun h' hkeep => ?_
    have F0 : Fram w p loose mean mg mb A₀ base outer L hh h₀ s'.heap m W := FF.sub fun q hq => .tail _ hq
    exact wpAny_execs_nil (fin m W h₀ { s' with heap := h' } hJ (F0.but I hIn.2.2 hIn.2.1 hW hkeep) (by rw [hs]))

theorem pyNext_lit {A : Around} {E : Value → Shared → Prop} {s : Shared} {it l : Addr} {i : Nat} {items : Array Value} {x : Value} {Q : Option Value → Shared → Prop} (hit : s.heap.get? it = some (litObj l (i : Int)))
    (hl : s.heap.IsList l items) (hx : items[i]? = some x)
    (hQ : ∀ h', h'.get? it = some (litObj l ((i + 1 : Nat) : Int)) → Heap.SameBut it s.heap h' → Q (some x) { s with heap := h' }) :
    wpAny (model PG w) A (pyNext (.ref it)) Q E s := by
  have hT : s.TypeIs (.ref it) "list_iterator" := ⟨_, hit, rfl⟩
  obtain ⟨ol, hol, _, nl, hdl⟩ := hl
  unfold pyNext
  refine wpAny_bind (wpAny_attempt (wpAny_callSpecial?_slot (name := Str.ofString "__next__") hT slot_listiter_next
    (wpAny_call_entry slot_listiter_next hT entry_listiter_next ?_ (args_listiter_next _))))
  show wpAny _ _ (field (.ref it) 0 >>= _) _ _ s
  refine wpAny_bind (wpAny_field hit rfl (x := .ref l) rfl ?_)
  show wpAny _ _ (if (Value.ref l == Value.none) = true then _ else _) _ _ s
  rw [if_neg (show ¬ ((Value.ref l == Value.none) = true) from Bool.false_ne_true)]
  show wpAny _ _ (field (.ref it) 1 >>= _) _ _ s
  refine wpAny_bind (wpAny_field hit rfl (x := .int i 0) rfl ?_)
  show wpAny _ _ (seqItems? (.ref l) >>= _) _ _ s
  refine wpAny_bind (wpAny_seqItems hol hdl ?_)
  simp only [Int.toNat_natCast, hx]
  refine wpAny_bind (wpAny_setField hit rfl (by simp) (wpAny_pure ⟨x, rfl, wpAny_pure (hQ _ ?_ (Heap.SameBut.update ..))⟩))
  exact Heap.get?_update_self _ hit rfl

theorem litObj_iter {h : Heap} {k : Nat} (e : h.get? I = some (litObj a (k : Int))) : h.IsListIter I a k := ⟨_, e, rfl, rfl⟩

/-- the loop over a list -/
theorem for_list {target : Expr} {body : List Stmt} {env : Env} {R : Result → Shared → Prop} {vs : List Value} {J : Nat → (Str → Option Value) → List (Addr × Obj) → Nat → Prop} (hA : A.handled = none)
    (hl : ∀ k m W t h₀ h V, J k m W t → Fram w p loose mean mg mb A₀ base outer L hh h₀ h m (V :: W) → h.IsList a vs.toArray)
    (turn : ∀ k m W s' h₀ v, vs[k]? = some v → J k m W s'.toks → (∀ q ∈ W, q.1 ≠ I) →
      Fram w p loose mean mg mb A₀ base outer L hh h₀ s'.heap m ((I, litObj a ((k + 1 : Nat) : Int)) :: W) → s' = { s₀ with heap := s'.heap, toks := s'.toks } →
      wpAny (model PG w) A (assign target env v) (fun _ s₂ => wpAny (model PG w) A (execs body env) (fun f s₃ => Post (f = .next ∧
          ∃ h₀' m' W', J (k + 1) m' W' s₃.toks ∧ (∀ q ∈ W', q.1 ≠ I) ∧ Fram w p loose mean mg mb A₀ base outer L hh h₀' s₃.heap m' ((I, litObj a ((k + 1 : Nat) : Int)) :: W') ∧ s₃ = { s₀ with heap := s₃.heap, toks := s₃.toks }))
        (notedBy (model PG w) A env fun e s' => R (.error e) s') s₂) (notedBy (model PG w) A env fun e s' => R (.error e) s') s')
    (fin : ∀ m W h₀ s', J vs.length m W s'.toks → Fram w p loose mean mg mb A₀ base outer L hh h₀ s'.heap m W → s' = { s₀ with heap := s'.heap, toks := s'.toks } → R (.ok .next) s')
    {W : List (Addr × Obj)} (hJ : J 0 m W s₀.toks) (hW : ∀ q ∈ W, q.1 ≠ I) (hF : Fram w p loose mean mg mb A₀ base outer L hh h₀ s₀.heap m ((I, litObj a ((0 : Nat) : Int)) :: W)) :
    codeAny (model PG w) A (.forLoop target (.ref I) body [] env) R s₀ := by
  refine for_io (n := vs.length) (io := fun k => litObj a (k : Int)) (T := "list_iterator") (It := fun k v t t' => vs[k]? = some v ∧ t' = t) (fun _ => rfl) (by decide) (fun k m W s' h₀ Q E hk hJ FF hQ => ?_) (fun m W s' h₀ Q E hJ FF hQ => ?_) (fun k m W s' h₀ v t hk hv hJ hW FF hs => turn k m W s' h₀ v hv.1 (by rw [hv.2]; exact hJ) hW FF hs) fin hJ hW hF
  · have hk' : vs.toArray[k]? = some vs[k] := by simp [hk]
    refine pyNext_lit (FF.N _ (.head _)).1 (hl k m W _ h₀ _ _ hJ FF) hk' fun h' hit hsame => ?_
    exact hQ _ h' s'.toks ⟨by simp [hk], rfl⟩ hit fun b o hb e => (hsame.2 b hb).trans e
  · have hk' : vs.toArray[vs.length]? = none := by simp
    exact wpAny_pyNext_list_end hA (litObj_iter (FF.N _ (.head _)).1) (hl _ m W _ h₀ _ _ hJ FF) hk' fun h' hx => hQ h' hx

/-- the loop over a range by ones -/
theorem for_rng {target : Expr} {body : List Stmt} {env : Env} {R : Result → Shared → Prop} {n : Nat} {x : Int} {J : Nat → (Str → Option Value) → List (Addr × Obj) → Nat → Prop} (hA : A.handled = none)
    (turn : ∀ k m W s' h₀ t, k < n → s'.toks = t + 1 → J k m W t → (∀ q ∈ W, q.1 ≠ I) →
      Fram w p loose mean mg mb A₀ base outer L hh h₀ s'.heap m ((I, rngObj (x + ((k + 1 : Nat) : Int)) ((n : Int) - ((k + 1 : Nat) : Int)) 1) :: W) → s' = { s₀ with heap := s'.heap, toks := s'.toks } →
      wpAny (model PG w) A (assign target env (.int (x + k) t)) (fun _ s₂ => wpAny (model PG w) A (execs body env) (fun f s₃ => Post (f = .next ∧
          ∃ h₀' m' W', J (k + 1) m' W' s₃.toks ∧ (∀ q ∈ W', q.1 ≠ I) ∧ Fram w p loose mean mg mb A₀ base outer L hh h₀' s₃.heap m' ((I, rngObj (x + ((k + 1 : Nat) : Int)) ((n : Int) - ((k + 1 : Nat) : Int)) 1) :: W') ∧ s₃ = { s₀ with heap := s₃.heap, toks := s₃.toks }))
        (notedBy (model PG w) A env fun e s' => R (.error e) s') s₂) (notedBy (model PG w) A env fun e s' => R (.error e) s') s')
    (fin : ∀ m W h₀ s', J n m W s'.toks → Fram w p loose mean mg mb A₀ base outer L hh h₀ s'.heap m W → s' = { s₀ with heap := s'.heap, toks := s'.toks } → R (.ok .next) s')
    {W : List (Addr × Obj)} (hJ : J 0 m W s₀.toks) (hW : ∀ q ∈ W, q.1 ≠ I) (hF : Fram w p loose mean mg mb A₀ base outer L hh h₀ s₀.heap m ((I, rngObj (x + ((0 : Nat) : Int)) ((n : Int) - ((0 : Nat) : Int)) 1) :: W)) :
    codeAny (model PG w) A (.forLoop target (.ref I) body [] env) R s₀ := by
  refine for_io (n := n) (io := fun k => rngObj (x + (k : Int)) ((n : Int) - k) 1) (T := "range_iterator") (It := fun k v t t' => v = .int (x + k) t ∧ t' = t + 1) (fun _ => rfl) (by decide) (fun k m W s' h₀ Q E hk hJ FF hQ => ?_) (fun m W s' h₀ Q E hJ FF hQ => ?_) (fun k m W s' h₀ v t hk hv hJ hW FF hs => ?_) fin hJ hW hF
  · refine wpAny_pyNext_range_item (FF.N _ (.head _)).1 (by lia) fun h' hit hsame => ?_
    refine hQ _ h' _ ⟨rfl, rfl⟩ ?_ fun b o hb e => (hsame.2 b hb).trans e
    have e1 : x + (k : Int) + 1 = x + ((k + 1 : Nat) : Int) := by lia
    have e2 : (n : Int) - k - 1 = (n : Int) - ((k + 1 : Nat) : Int) := by lia
    show h'.get? I = some (rngObj (x + ((k + 1 : Nat) : Int)) ((n : Int) - ((k + 1 : Nat) : Int)) 1)
    rw [← e1, ← e2]
    exact hit
  · exact wpAny_pyNext_range_end hA (FF.N _ (.head _)).1 (by lia) fun h' hx => hQ h' hx
  · obtain ⟨rfl, ht⟩ := hv
    exact turn k m W s' h₀ t hk ht hJ hW FF hs
/-- the loop over a list of one thing -/
theorem for_one {target : Expr} {body : List Stmt} {env : Env} {R : Result → Shared → Prop} {v : Value} {c : Nat} (hA : A.handled = none) {W : List (Addr × Obj)} (hm : (a, listOf #[v] c) ∈ W) (hW : ∀ q ∈ W, q.1 ≠ I)
    (hF : Fram w p loose mean mg mb A₀ base outer L hh h₀ s₀.heap m ((I, litObj a ((0 : Nat) : Int)) :: W))
    (turn : ∀ h', Fram w p loose mean mg mb A₀ base outer L hh h₀ h' m ((I, litObj a ((1 : Nat) : Int)) :: W) →
      wpAny (model PG w) A (assign target env v) (fun _ s₂ => wpAny (model PG w) A (execs body env) (fun f s₃ => Post (f = .next ∧
          ∃ h₀' m' W', Fram w p loose mean mg mb A₀ base outer L hh h₀' s₃.heap m' ((I, litObj a ((1 : Nat) : Int)) :: W') ∧ (∀ q ∈ W', q.1 ≠ I) ∧ (a, listOf #[v] c) ∈ W' ∧ ∀ h', Fram w p loose mean mg mb A₀ base outer L hh h₀' h' m' W' → R (.ok .next) { s₃ with heap := h' }))
        (notedBy (model PG w) A env fun e s' => R (.error e) s') s₂) (notedBy (model PG w) A env fun e s' => R (.error e) s') { s₀ with heap := h' }) :
    codeAny (model PG w) A (.forLoop target (.ref I) body [] env) R s₀ := by
  refine codeAny_forLoop_any (I := fun j s' => (j = 1 ∧ s' = s₀) ∨ (j = 0 ∧ ∃ h₀' m' W', Fram w p loose mean mg mb A₀ base outer L hh h₀' s'.heap m' ((I, litObj a ((1 : Nat) : Int)) :: W') ∧ (∀ q ∈ W', q.1 ≠ I) ∧ (a, listOf #[v] c) ∈ W' ∧ ∀ h', Fram w p loose mean mg mb A₀ base outer L hh h₀' h' m' W' → R (.ok .next) { s' with heap := h' }))
    (fun j s' hI => ?_) 1 (.inl ⟨rfl, rfl⟩)
  rcases hI with ⟨rfl, rfl⟩ | ⟨rfl, h₀', m', W', F', hW', hm', k'⟩
  · have hIn := hF.N (I, _) (.head _)
    have hl : s'.heap.IsList a #[v] := ⟨_, (hF.N _ (.tail _ hm)).1, rfl, _, rfl⟩
    refine pyNext_lit hIn.1 hl (x := v) rfl fun h' hit hs => ?_
    have F1 := (hF.sub fun q hq => .tail _ hq).but I hIn.2.2 hIn.2.1 hW fun b o hb e => (hs.2 b hb).trans e
    have F2 : Fram w p loose mean mg mb A₀ base outer L hh h₀ h' m ((I, litObj a ((1 : Nat) : Int)) :: W) := ⟨F1.T0, F1.F, fun q hq => by
      rcases List.mem_cons.mp hq with rfl | hq
      · exact ⟨hit, hIn.2⟩
      · exact F1.N q hq, F1.B, F1.X, F1.T, F1.XB, F1.TB, F1.D⟩
    refine letGo_it (o := litObj a ((1 : Nat) : Int)) hit rfl (by decide) ?_
    refine wpAny_mono (turn h' F2) (fun _ s₂ h₂ => wpAny_mono h₂ (fun f s₃ h₃ => ?_) fun _ _ x => x) fun _ _ x => x
    obtain ⟨rfl, r⟩ := h₃.get
    exact ⟨0, Nat.zero_lt_one, .inr ⟨rfl, r⟩⟩
  · have hIn := F'.N (I, _) (.head _)
    have hl : s'.heap.IsList a #[v] := ⟨_, (F'.N _ (.tail _ hm')).1, rfl, _, rfl⟩
    refine wpAny_pyNext_list_end hA (litObj_iter hIn.1) hl (by rfl) fun h' hx => wpAny_execs_nil (k' h' ?_)
    exact (F'.sub fun q hq => .tail _ hq).but I hIn.2.2 hIn.2.1 hW' hx

/-- iter of a made list -/
theorem pyIter_led {E : Value → Shared → Prop} {s : Shared} {news : List (Addr × Obj)} {its : Array Value} {c : Nat} {Q : Value → Shared → Prop} (F : Fr h₀ L s.heap m) (N : News h₀ L s.heap news) (hm : (a, listOf its c) ∈ news)
    (h : ∀ I h', Fr h₀ L h' m → News h₀ L h' ((I, litObj a ((0 : Nat) : Int)) :: news) → (∀ q ∈ news, q.1 < I) → Q (.ref I) { s with heap := h' }) : wpAny (model PG w) A (pyIter (.ref a)) Q E s :=
  wpAny_pyIter_list (N.isList hm) (h _ _ (F.push _) (News.push F N _ rfl) fun q hq => Heap.lt_size (N q hq).1)
/-- an item of a made list is set -/
theorem set_led {E : Value → Shared → Prop} {s : Shared} {D : Addr} {news news' : List (Addr × Obj)} {vs : List Value} {n j : Nat} {v : Value} {t : Tok} {Q : Unit → Shared → Prop} (F : Fr h₀ L s.heap m) (N : News h₀ L s.heap news) (U : Upd D (listOf vs.toArray n) (listOf (vs.set j v).toArray n) news news')
    (h1 : j < vs.length) (h66 : vs.length ≤ 66) (h : ∀ h', Fr h₀ L h' m → News h₀ L h' news' → Q () { s with heap := h' }) :
    wpAny (model PG w) A (setItem (.ref D) (.int (j : Int) t) v) Q E s := by
  obtain ⟨pre, post, rfl, rfl, a, b⟩ := U.split
  have z := N (D, listOf vs.toArray n) (List.mem_append.mpr (.inr (.head _)))
  refine ki_setAt z.1 (by lia) (by lia) (by rw [List.size_toArray]; lia) (h _ (F.change (Heap.SameBut.update ..) z.2.1 z.2.2) (ki_turn _ N a b ?_ ?_))
  · rw [Int.toNat_natCast]
    show vs.toArray.setIfInBounds j v = (vs.set j v).toArray
    apply Array.toList_inj.mp
    simp
  · simp
end
end Mine
end

-- SP
section
open PySem PySem.W PySem.Calls PyProof.Rows PySem.Float64 PySem.Builtin.Math
set_option exponentiation.threshold 3000
set_option maxRecDepth 100000
namespace Mine
/-- an iterator that gives these, one by one -/
structure Feed (w : World) (I : Addr) (fp : List Addr) (vs : List Value) (St : Nat → Heap → Prop) : Prop where
  frame : ∀ i h h', St i h → (∀ b ∈ fp, ∀ o, h.get? b = some o → h'.get? b = some o) → St i h'
  item : ∀ {A : Around} {E : Value → Shared → Prop} {s : Shared} {Q : Option Value → Shared → Prop} i (v : Value), vs[i]? = some v → St i s.heap →
    (∀ h', St (i + 1) h' → Heap.SameBut I s.heap h' → Q (some v) { s with heap := h' }) → wpAny (model PG w) A (pyNext (.ref I)) Q E s
  done : ∀ {A : Around} {E : Value → Shared → Prop} {s : Shared} {Q : Option Value → Shared → Prop}, A.handled = none → St vs.length s.heap →
    (∀ h', Heap.ExtBut I s.heap h' → Q none { s with heap := h' }) → wpAny (model PG w) A (pyNext (.ref I)) Q E s

theorem feed_list {w : World} {I a : Addr} (hne : I ≠ a) (vs : List Value) : Feed w I [I, a] vs fun i h => h.IsListIter I a i ∧ h.IsList a vs.toArray where
  frame := fun _ _ _ st k => ⟨by obtain ⟨o, ho, r⟩ := st.1; exact ⟨o, k I (.head _) o ho, r⟩, by obtain ⟨o, ho, r⟩ := st.2; exact ⟨o, k a (.tail _ (.head _)) o ho, r⟩⟩
  item := fun i v hv st hQ => wpAny_pyNext_list_item st.1 st.2 (by simpa using hv) fun h' hit hs => hQ h' ⟨hit, by obtain ⟨o, ho, r⟩ := st.2; exact ⟨o, (hs.2 a (Ne.symm hne)).trans ho, r⟩⟩ hs
  done := fun hh st hQ => wpAny_pyNext_list_end hh st.1 st.2 (by simp) hQ
theorem feed_tup {w : World} {I a : Addr} (hne : I ≠ a) (vs : List Value) : Feed w I [I, a] vs fun i h => h.IsTupleIter I a i ∧ h.IsTuple a vs.toArray where
  frame := fun _ _ _ st k => ⟨by obtain ⟨o, ho, r⟩ := st.1; exact ⟨o, k I (.head _) o ho, r⟩, by obtain ⟨o, ho, r⟩ := st.2; exact ⟨o, k a (.tail _ (.head _)) o ho, r⟩⟩
  item := fun i v hv st hQ => wpAny_pyNext_tuple_item st.1 st.2 (by simpa using hv) fun h' hit hs => hQ h' ⟨hit, by obtain ⟨o, ho, r⟩ := st.2; exact ⟨o, (hs.2 a (Ne.symm hne)).trans ho, r⟩⟩ hs
  done := fun hh st hQ => wpAny_pyNext_tuple_end hh st.1 st.2 (by simp) hQ

theorem entry_sumprod : entryFor table "math.sumprod" = some Builtin.«math.sumprod» := entryFor_of_fast (by kernel_rfl)
theorem entry_sumprod_loop : entryFor table "math.sumprod.loop" = some Builtin.«math.sumprod.loop» := entryFor_of_fast (by kernel_rfl)
theorem plain_sumprod_loop : plainId "math.sumprod.loop" = true := by decide +kernel
abbrev threeObj (t : UInt64 × UInt64 × UInt64) : Obj := { cls := .type "tuple", data := .seq #[rawInt t.1.toNat, rawInt t.2.1.toNat, rawInt t.2.2.toNat] }
theorem back (x : UInt64) : ((x.toNat : Int).toNat).toUInt64 = x := by rw [Int.toNat_natCast]; exact UInt64.ofNat_toNat
section
variable {w : World} {A : Around} {s : Shared}
theorem sp_loop {I J : Addr} {fp fq : List Addr} {xs ys : List Value} {SP SQ : Nat → Heap → Prop} {t0 : Tok} {R : Result → Shared → Prop} {n : Nat} {u v : Nat → Int} {f : Nat → Int}
    (FP : Feed w I fp xs SP) (FQ : Feed w J fq ys SQ) (hIJ : I ≠ J) (hIq : I ∉ fq) (hJp : J ∉ fp) (hx : xs.length = n) (hy : ys.length = n) (hh : A.handled = none)
    (nx : ∀ j, j < n → ∃ x t, xs[j]? = some (.float x t) ∧ IsQ x (u j)) (ny : ∀ j, j < n → ∃ x t, ys[j]? = some (.float x t) ∧ IsQ x (v j)) (huv : ∀ j, j < n → u j * v j = 4 * f j)
    (hb : ∀ j, j < n → Sm (f j)) (hB : ∀ j, j ≤ n → Sm (sumN j f)) :
    ∀ (j k : Nat) (s : Shared) (T : Addr) (t : UInt64 × UInt64 × UInt64) (io fu : Bool), k + j = n → (0 < j ∨ io = false) → (0 < j ∨ fu = true) → SP k s.heap → SQ k s.heap → s.heap.get? T = some (threeObj t) → IsT t (sumN k f) → T ∉ I :: J :: fp ++ fq → (∀ b ∈ fp ++ fq, b < s.heap.objs.size) → I < s.heap.objs.size → J < s.heap.objs.size →
      (∀ h' tk' r tr, (∀ b o, b ≠ I → b ≠ J → s.heap.get? b = some o → h'.get? b = some o) → s.toks ≤ tk' → IsQ r (sumN n f) → R (.ok (.ret (.float r tr))) { s with heap := h', toks := tk' }) →
      codeAny (model PG w) A (.builtin "math.sumprod.loop" ⟨[.ref I, .ref J, .int 0 t0, .bool io, .int 0 0, .bool false, .bool true, .ref T, .bool fu], []⟩) R s := by
  intro j
  induction j with
  | zero =>
    intro k s T t io fu hk hio hfu sp sq hT hT' nT lt lI lJ hR
    obtain rfl : io = false := hio.resolve_left (Nat.lt_irrefl _)
    obtain rfl : fu = true := hfu.resolve_left (Nat.lt_irrefl _)
    obtain rfl : k = n := by lia
    refine codeAny_builtin entry_sumprod_loop ?_
    rw [Around.under_plainId plain_sumprod_loop _]
    unfold Builtin.«math.sumprod.loop»
    dsimp only
    refine wpAny_bind (wpAny_seqItems hT rfl ?_)
    have step : ∀ {A' : Around} {Q : Fin → Shared → Prop} {E : Value → Shared → Prop} (k2 : Option Value → Option Value → Sem Fin), A'.handled = none → (∀ h₂, (∀ b o, b ≠ I → b ≠ J → s.heap.get? b = some o → h₂.get? b = some o) →
        wpAny (model PG w) A' (k2 none none) Q E { s with heap := h₂ }) → wpAny (model PG w) A' (pyNext (.ref I) >>= fun p => holding p.toList (pyNext (.ref J)) >>= fun q => k2 p q) Q E s := by
      intro A' Q E k2 hA' hk2
      refine wpAny_bind (FP.done hA' (by rw [hx]; exact sp) fun h₁ s₁ => ?_)
      refine wpAny_bind (wpAny_holding (FQ.done hA' (by rw [hy]; exact FQ.frame _ _ _ sq fun b hb o e => s₁ b o (fun z => hIq (z ▸ hb)) e) fun h₂ s₂ => ?_))
      exact hk2 h₂ (fun b o h1 h2 e => s₂ b o h2 (s₁ b o h1 e))
    refine step _ (by exact hh) fun h₂ kp₂ => ?_
    simp only [Option.isSome_none, bne_self_eq_false, Bool.false_eq_true, if_false, if_true, back]
    refine wpAny_bind (wpAny_rule (wpAny_bind ?_))
    refine wpAny_bind (wpAny_fresh (wpAny_pure ?_))
    refine wpAny_bind (wpAny_holding (add_if_fits (by decide) ?_))
    refine wpAny_pure (hR h₂ _ _ _ kp₂ (by show s.toks ≤ s.toks + 1 + 1; lia) ?_)
    have e := (isQ_ofInt (i := 0) (by decide)).add (tlToFloat_q hT' (hB k (Nat.le_refl _))) (by have := hB k (Nat.le_refl _); unfold Sm at this; lia)
    rwa [show 4 * (0 : Int) + sumN k f = sumN k f by lia] at e
  | succ j ih =>
    intro k s T t io fu hk hio hfu sp sq hT hT' nT lt lI lJ hR
    refine codeAny_builtin entry_sumprod_loop ?_
    rw [Around.under_plainId plain_sumprod_loop _]
    unfold Builtin.«math.sumprod.loop»
    dsimp only
    refine wpAny_bind (wpAny_seqItems hT rfl ?_)
    obtain ⟨x, tx, hxk, qx⟩ := nx k (by lia)
    obtain ⟨y, ty, hyk, qy⟩ := ny k (by lia)
    have nT1 : T ≠ I := fun e => nT (e ▸ .head _)
    have nT2 : T ≠ J := fun e => nT (e ▸ .tail _ (.head _))
    have nT3 : ∀ b ∈ fp ++ fq, b ≠ T := fun b hb e => nT (e ▸ .tail _ (.tail _ hb))
    have step : ∀ {A' : Around} {Q : Fin → Shared → Prop} {E : Value → Shared → Prop} (k2 : Option Value → Option Value → Sem Fin), (∀ h₂, SP (k + 1) h₂ → SQ (k + 1) h₂ → (∀ b o, b ≠ I → b ≠ J → s.heap.get? b = some o → h₂.get? b = some o) → h₂.objs.size = s.heap.objs.size →
        wpAny (model PG w) A' (k2 (some (.float x tx)) (some (.float y ty))) Q E { s with heap := h₂ }) → wpAny (model PG w) A' (pyNext (.ref I) >>= fun p => holding p.toList (pyNext (.ref J)) >>= fun q => k2 p q) Q E s := by
      intro A' Q E k2 hk2
      refine wpAny_bind (FP.item k _ hxk sp fun h₁ sp₁ s₁ => ?_)
      refine wpAny_bind (wpAny_holding (FQ.item k _ hyk (FQ.frame _ _ _ sq fun b hb o e => (s₁.2 b fun z => hIq (z ▸ hb)).trans e) fun h₂ sq₂ s₂ => ?_))
      exact hk2 h₂ (FP.frame _ _ _ sp₁ fun b hb o e => (s₂.2 b fun z => hJp (z ▸ hb)).trans e) sq₂ (fun b o h1 h2 e => (s₂.2 b h2).trans ((s₁.2 b h1).trans e)) (s₂.1.trans s₁.1)
    refine step _ fun h₂ sp₂ sq₂ kp₂ sz₂ => ?_
    have fma := tlFma_q qx qy hT' (huv k (by lia)) (hb k (by lia)) (hB k (by lia))
    have fin := fma.hi.finite
    have go : ∀ {A' : Around} {E : Value → Shared → Prop}, wpAny (model PG w) A' (newTuple [rawInt (tlFma x y t).1.toNat, rawInt (tlFma x y t).2.1.toNat, rawInt (tlFma x y t).2.2.toNat] >>= fun t => again (.builtin "math.sumprod.loop" ⟨[.ref I, .ref J, .int 0 t0, .bool false, rawInt 0, .bool false, .bool true, t, .bool true], []⟩))
        (fun fin s' => match fin with | .done f => R (.ok f) s' | .again c' => c'.quiet = true ∧ codeAny (model PG w) A c' R s') E { s with heap := h₂ } := by
      intro A' E
      refine wpAny_bind (wpAny_newTuple ?_ (by show 3 ≤ _; rw [sizeLine_eq]; decide))
      refine wpAny_pure ⟨plainId_quiet plain_sumprod_loop _, ?_⟩
      have szp := Heap.size_push h₂ (seqObj "tuple" #[rawInt (tlFma x y t).1.toNat, rawInt (tlFma x y t).2.1.toNat, rawInt (tlFma x y t).2.2.toNat] 0)
      have kp : ∀ b o, h₂.get? b = some o → (h₂.push (seqObj "tuple" #[rawInt (tlFma x y t).1.toNat, rawInt (tlFma x y t).2.1.toNat, rawInt (tlFma x y t).2.2.toNat] 0)).get? b = some o := fun b o e => Heap.get?_push_of_some _ e
      refine ih (k + 1) { s with heap := h₂.push _ } h₂.objs.size (tlFma x y t) false true (by lia) (.inr rfl) (.inr rfl) (FP.frame _ _ _ sp₂ fun b _ o e => kp b o e) (FQ.frame _ _ _ sq₂ fun b _ o e => kp b o e) (Heap.get?_push_size _ rfl) fma ?_ ?_ ?_ ?_ ?_
      · have lt2 : ∀ b ∈ I :: J :: fp ++ fq, b < s.heap.objs.size := fun b hb => by
          rcases List.mem_cons.mp hb with rfl | hb
          · exact lI
          · rcases List.mem_cons.mp hb with rfl | hb
            · exact lJ
            · exact lt b hb
        intro hm
        exact absurd (lt2 _ hm) (by rw [sz₂]; exact Nat.lt_irrefl _)
      · intro b hb
        exact Nat.lt_of_lt_of_le (lt b hb) (by show _ ≤ (h₂.push _).objs.size; rw [szp, sz₂]; exact Nat.le_succ _)
      · exact Nat.lt_of_lt_of_le lI (by show _ ≤ (h₂.push _).objs.size; rw [szp, sz₂]; exact Nat.le_succ _)
      · exact Nat.lt_of_lt_of_le lJ (by show _ ≤ (h₂.push _).objs.size; rw [szp, sz₂]; exact Nat.le_succ _)
      · intro h' tk' r tr kk tt q
        exact hR h' tk' r tr (fun b o h1 h2 e => kk b o h1 h2 (kp b o (kp₂ b o h1 h2 e))) tt q
    cases io <;> simp only [Option.isSome_some, bne_self_eq_false, Bool.false_eq_true, if_false, if_true, back, fin]
    · exact go
    · exact wpAny_bind (wpAny_rule go)
theorem call_function_again {prog : Program} {E : Value → Shared → Prop} {id : String} {b : Builtin} {args : List Value} {Q : Value → Shared → Prop} (hk : builtinKind id = none) (hp : plainId id = true) (hb : entryFor table id = some b) (ha : argsOk id ⟨args, []⟩)
    (hc : wpAny (model prog w) A.in1 (b ⟨args, []⟩) (fun fin s' => match fin with
      | .done f => (match (Except.ok f : Result) with | .ok (.ret v) => Q v s' | .ok _ => False | .error e => E e s')
      | .again c' => c'.quiet = true ∧ codeAny (model prog w) A c' (fun r s' => match r with | .ok (.ret v) => Q v s' | .ok _ => False | .error e => E e s') s') E s) : wpAny (model prog w) A (call (.builtin id) args) Q E s := by
  refine wpAny_call (codeAny_call_builtin hp hb ?_)
  simp only [checkBuiltinCall, hk]
  cases hsig : Manifest.signature? id with
  | none => exact wpAny_pure hc
  | some sig =>
    simp only [argsOk, hsig] at ha
    have h2 : Bind.checkArgs id sig ⟨args, []⟩ = pure () := ha
    show wpAny _ A.in1 (Bind.checkArgs id sig ⟨args, []⟩) _ _ s
    rw [h2]; exact wpAny_pure hc
/-- a sequence that an iterator walks over -/
structure Src (w : World) (h₀ : Heap) (a : Addr) (vs : List Value) : Prop where
  go : ∃ (oa : Obj) (St : Addr → Nat → Heap → Prop), a < h₀.objs.size ∧ oa.isFreed = false ∧ (∀ I, I ≠ a → Feed w I [I, a] vs (St I)) ∧
    (∀ I h, (∀ b o, h₀.get? b = some o → h.get? b = some o) → h.get? I = some oa → St I 0 h) ∧
    (∀ {A : Around} {E : Value → Shared → Prop} {s : Shared} {Q : Value → Shared → Prop}, (∀ b o, h₀.get? b = some o → s.heap.get? b = some o) → Q (.ref s.heap.objs.size) { s with heap := s.heap.push oa } → wpAny (model PG w) A (pyIter (.ref a)) Q E s)
theorem src_list {h₀ : Heap} {a : Addr} {vs : List Value} (hl : h₀.IsList a vs.toArray) : Src w h₀ a vs :=
  ⟨_, fun I i h => h.IsListIter I a i ∧ h.IsList a vs.toArray, by obtain ⟨o, ho, _⟩ := hl; exact Heap.lt_size ho, rfl, fun I hI => feed_list hI vs, fun I h k e => ⟨⟨_, e, rfl, rfl⟩, hl.at (k a)⟩, fun k hQ => wpAny_pyIter_list (hl.at (k a)) hQ⟩
theorem src_tup {h₀ : Heap} {a : Addr} {vs : List Value} (hl : h₀.IsTuple a vs.toArray) : Src w h₀ a vs :=
  ⟨_, fun I i h => h.IsTupleIter I a i ∧ h.IsTuple a vs.toArray, by obtain ⟨o, ho, _⟩ := hl; exact Heap.lt_size ho, rfl, fun I hI => feed_tup hI vs, fun I h k e => ⟨⟨_, e, rfl, rfl⟩, by obtain ⟨o, ho, r⟩ := hl; exact ⟨o, k _ _ ho, r⟩⟩, fun k hQ => wpAny_pyIter_tuple (by obtain ⟨o, ho, r⟩ := hl; exact ⟨o, k _ _ ho, r⟩) hQ⟩
theorem args_sumprod (a b : Value) : argsOk "math.sumprod" ⟨[a, b], []⟩ := by unfold argsOk; kernel_rfl
/-- sumprod of two made lists, or tuples -/
theorem sumprod_src {E : Value → Shared → Prop} {Q : Value → Shared → Prop} {a b : Addr} {xs ys : List Value} {n : Nat} {u v f : Nat → Int} (hA : A.handled = none) (ha : Src w s.heap a xs) (hb' : Src w s.heap b ys) (hx : xs.length = n) (hy : ys.length = n) (h0 : 0 < n)
    (nx : ∀ j, j < n → ∃ x t, xs[j]? = some (.float x t) ∧ IsQ x (u j)) (ny : ∀ j, j < n → ∃ x t, ys[j]? = some (.float x t) ∧ IsQ x (v j)) (huv : ∀ j, j < n → u j * v j = 4 * f j)
    (hb : ∀ j, j < n → Sm (f j)) (hB : ∀ j, j ≤ n → Sm (sumN j f))
    (hQ : ∀ h' tk' r tr, (∀ b o, s.heap.get? b = some o → h'.get? b = some o) → s.toks ≤ tk' → IsQ r (sumN n f) → Q (.float r tr) { s with heap := h', toks := tk' }) :
    wpAny (model PG w) A (call (.builtin "math.sumprod") [.ref a, .ref b]) Q E s := by
  obtain ⟨oa, SA, la, fa, FA, A0, ia⟩ := ha
  obtain ⟨ob, SB, lb, fb, FB, B0, ib⟩ := hb'
  refine call_function_again (by decide +kernel) (by decide +kernel) entry_sumprod (args_sumprod _ _) ?_
  unfold Builtin.«math.sumprod»
  refine wpAny_bind (m := mathSome "sumprod" 2 2 _) (wpAny_of_eq (a := [Value.ref a, Value.ref b]) (by first | rfl | kernel_rfl!) ?_)
  dsimp only
  refine wpAny_bind (ia (fun _ _ e => e) ?_)
  have k1 : ∀ b o, s.heap.get? b = some o → (s.heap.push oa).get? b = some o := fun b o e => Heap.get?_push_of_some _ e
  refine wpAny_bind (wpAny_holding (ib k1 ?_))
  have z1 := Heap.size_push s.heap oa
  have z2 := Heap.size_push (s.heap.push oa) ob
  have k2 : ∀ b o, (s.heap.push oa).get? b = some o → ((s.heap.push oa).push ob).get? b = some o := fun b o e => Heap.get?_push_of_some _ e
  refine wpAny_bind (wpAny_bind (wpAny_fresh (wpAny_pure ?_)))
  refine wpAny_bind (wpAny_newTuple ?_ (by show 3 ≤ _; rw [sizeLine_eq]; decide))
  refine wpAny_pure ⟨plainId_quiet plain_sumprod_loop _, ?_⟩
  have z3 := Heap.size_push ((s.heap.push oa).push ob) (threeObj (zero false, zero false, zero false))
  have k3 : ∀ b o, ((s.heap.push oa).push ob).get? b = some o → (((s.heap.push oa).push ob).push (threeObj (zero false, zero false, zero false))).get? b = some o := fun b o e => Heap.get?_push_of_some _ e
  have gI := k3 _ _ (k2 _ _ (Heap.get?_push_size s.heap fa))
  have gJ := k3 _ _ (Heap.get?_push_size (s.heap.push oa) fb)
  have gT := Heap.get?_push_size ((s.heap.push oa).push ob) (o := threeObj (zero false, zero false, zero false)) rfl
  have nIa : s.heap.objs.size ≠ a := Nat.ne_of_gt la
  have nIb : s.heap.objs.size ≠ b := Nat.ne_of_gt lb
  have nJa : (s.heap.push oa).objs.size ≠ a := Nat.ne_of_gt (by rw [z1]; exact Nat.lt_succ_of_lt la)
  have nJb : (s.heap.push oa).objs.size ≠ b := Nat.ne_of_gt (by rw [z1]; exact Nat.lt_succ_of_lt lb)
  have nIJ : s.heap.objs.size ≠ (s.heap.push oa).objs.size := by rw [z1]; exact Nat.ne_of_lt (Nat.lt_succ_self _)
  have kk : ∀ b o, s.heap.get? b = some o → (((s.heap.push oa).push ob).push (threeObj (zero false, zero false, zero false))).get? b = some o := fun b o e => k3 _ _ (k2 _ _ (k1 _ _ e))
  have l1 : s.heap.objs.size < (((s.heap.push oa).push ob).push (threeObj (zero false, zero false, zero false))).objs.size := by rw [z3, z2, z1]; exact Nat.lt_succ_of_lt (Nat.lt_succ_of_lt (Nat.lt_succ_self _))
  have l2 : (s.heap.push oa).objs.size < (((s.heap.push oa).push ob).push (threeObj (zero false, zero false, zero false))).objs.size := by rw [z3, z2]; exact Nat.lt_succ_of_lt (Nat.lt_succ_self _)
  have e1 : s.heap.objs.size < ((s.heap.push oa).push ob).objs.size := by rw [z2, z1]; exact Nat.lt_succ_of_lt (Nat.lt_succ_self _)
  have e2 : (s.heap.push oa).objs.size < ((s.heap.push oa).push ob).objs.size := by rw [z2]; exact Nat.lt_succ_self _
  refine sp_loop (FA _ nIa) (FB _ nJb) nIJ ?_ ?_ hx hy hA nx ny huv hb hB n 0 { s with heap := ((s.heap.push oa).push ob).push (threeObj (zero false, zero false, zero false)), toks := s.toks + 1 } ((s.heap.push oa).push ob).objs.size (zero false, zero false, zero false) true false (Nat.zero_add n) (.inl h0) (.inl h0) (A0 _ _ kk gI) (B0 _ _ kk gJ) gT isT_zero ?_ ?_ l1 l2 ?_
  · intro hm
    rcases List.mem_cons.mp hm with e | hm
    · exact nIJ e
    · exact nIb (List.mem_singleton.mp hm)
  · intro hm
    rcases List.mem_cons.mp hm with e | hm
    · exact nIJ e.symm
    · exact nJa (List.mem_singleton.mp hm)
  · intro hm
    simp only [List.cons_append, List.nil_append, List.mem_cons, List.mem_nil_iff, or_false] at hm
    rcases hm with e | e | e | e | e | e
    · rw [e] at e1; exact Nat.lt_irrefl _ e1
    · rw [e] at e2; exact Nat.lt_irrefl _ e2
    · rw [e] at e1; exact Nat.lt_irrefl _ e1
    · rw [e] at e1; exact Nat.lt_irrefl _ (Nat.lt_trans la e1)
    · rw [e] at e2; exact Nat.lt_irrefl _ e2
    · rw [e] at e1; exact Nat.lt_irrefl _ (Nat.lt_trans lb e1)
  · intro c hc
    simp only [List.cons_append, List.nil_append, List.mem_cons, List.mem_nil_iff, or_false] at hc
    rcases hc with rfl | rfl | rfl | rfl
    · exact l1
    · exact Nat.lt_trans la l1
    · exact l2
    · exact Nat.lt_trans lb l1
  · intro h' tk' r tr kp tt q
    refine hQ h' tk' r tr (fun c o e => kp c o ?_ ?_ (kk _ _ e)) (Nat.le_trans (Nat.le_succ _) tt) q
    · exact Nat.ne_of_lt (Heap.lt_size e)
    · exact Nat.ne_of_lt (by rw [z1]; exact Nat.lt_succ_of_lt (Heap.lt_size e))
end
end Mine
end

-- SQ
section
open PySem PySem.W PySem.Calls PyProof.Rows
set_option maxRecDepth 100000
set_option exponentiation.threshold 3000
namespace Mine
theorem IsQ.noNaN {x : UInt64} {v : Int} (h : IsQ x v) : Float64.isNaN x = false := by
  obtain ⟨a, m, e, hd, _⟩ := h
  unfold Float64.isNaN
  rw [hd]
theorem IsQ.div_zero {x y : UInt64} {N : Nat} (hx : IsQ x 0) (hy : IsQ y ((2 * N : Nat) : Int)) (hN : 0 < N) : IsQ (Float64.div x y) 0 := by
  obtain ⟨s, _, h⟩ := right_div (W := 0) hx hy hN
  exact isQ_right h hN (by simp) (.inl rfl) (by decide)
section
variable {prog : Program} {w : World} {A : Around} {E : Value → Shared → Prop} {s : Shared} {Q : Value → Shared → Prop} {x y : UInt64} {t u : Tok} {v : Int}
theorem sqrt_q (hA : A.handled = none) (h : IsQ (Float64.sqrt x) v) (hQ : Q (.float (Float64.sqrt x) s.toks) { s with toks := s.toks + 1 }) : wpAny (model prog w) A (call (.builtin "math.sqrt") [.float x t]) Q E s :=
  Flt.call_sqrt_float hA (fun e => by rw [h.noNaN] at e; exact absurd e (by simp)) fun _ => hQ
theorem isfinite_q (h : IsQ x v) (hQ : Q (.bool true) s) : wpAny (model prog w) A (call (.builtin "math.isfinite") [.float x t]) Q E s :=
  Flt.call_isfinite_float (by rw [h.finite]; exact hQ)
theorem truthy_q {Q : Bool → Shared → Prop} (h : IsQ x v) (hv : v ≠ 0) (hQ : Q true s) : wpAny (model prog w) A (truthy (.float x t)) Q E s :=
  truthy_float (by rw [isQ_isZero h, decide_eq_false hv]; exact hQ)
theorem div_q (hA : A.handled = none) (h : IsQ y v) (hv : v ≠ 0) (hQ : Q (.float (Float64.div x y) s.toks) { s with toks := s.toks + 1 }) : wpAny (model prog w) A (binaryOp .Div (.float x t) (.float y u)) Q E s :=
  truediv_float_or hA (fun e => by rw [isQ_isZero h, decide_eq_false hv] at e; cases e) fun _ => hQ
end
theorem sumprod_frame {w : World} {A : Around} {E : Value → Shared → Prop} {s : Shared} {Q : Value → Shared → Prop} {h₀ : Heap} {L : Addr} {m : Str → Option Value} {news : List (Addr × Obj)} {a b : Addr} {xs ys : List Value} {n : Nat} {u v f : Nat → Int} (hA : A.handled = none) (F : Fr h₀ L s.heap m) (N : News h₀ L s.heap news)
    (ha : Src w s.heap a xs) (hb' : Src w s.heap b ys) (hx : xs.length = n) (hy : ys.length = n) (h0 : 0 < n)
    (nx : ∀ j, j < n → ∃ x t, xs[j]? = some (.float x t) ∧ IsQ x (u j)) (ny : ∀ j, j < n → ∃ x t, ys[j]? = some (.float x t) ∧ IsQ x (v j)) (huv : ∀ j, j < n → u j * v j = 4 * f j)
    (hb : ∀ j, j < n → Sm (f j)) (hB : ∀ j, j ≤ n → Sm (sumN j f))
    (hQ : ∀ h' tk' r tr, Fr h₀ L h' m → News h₀ L h' news → s.toks ≤ tk' → IsQ r (sumN n f) → Q (.float r tr) { s with heap := h', toks := tk' }) :
    wpAny (model PG w) A (call (.builtin "math.sumprod") [.ref a, .ref b]) Q E s :=
  sumprod_src hA ha hb' hx hy h0 nx ny huv hb hB fun h' tk' r tr k tt q => hQ h' tk' r tr (F.keeps k) (N.grown k) tt q
theorem isQ_two : IsQ 4611686018427387904 8 := by
  have e : Float64.ofInt 2 = 4611686018427387904 := by decide +kernel
  rw [← e]
  exact isQ_ofInt (by decide)
theorem two_floats {x y : UInt64} {tx ty : Tok} {p q : Int} (hx : IsQ x p) (hy : IsQ y q) : ∀ j, j < 2 → ∃ z t, [Value.float x tx, Value.float y ty][j]? = some (.float z t) ∧ IsQ z (if j = 0 then p else q) := fun j hj => by
  rcases j with _ | _ | j
  · exact ⟨x, tx, rfl, hx⟩
  · exact ⟨y, ty, rfl, hy⟩
  · lia
section
variable {w : World} {base : Heap}
set_option maxHeartbeats 8000000 in
theorem sqrt_t {x y : UInt64} {tx ty : Tok} {N : Nat} (hx : IsQ x ((2 * N : Nat) : Int)) (hy : IsQ y ((2 * N : Nat) : Int)) (hN : 0 < N) (hb : N ≤ 2 ^ 20) :
    DoesA w 10 base 285 ⟨[.float x tx, .float y ty], []⟩ [] (fun r V' => ∃ (h : UInt64) (t : Tok), r = some (.float h t) ∧ IsQ h ((2 * N : Nat) : Int) ∧ V' = []) := by
  intro p loose mean mg mb dp un gd outer g s R S V hd hu hq he
  obtain ⟨B, X, T, XB, TB, KD⟩ := S
  have hNN : N * N ≤ 2 ^ 40 := by
    calc N * N ≤ 2 ^ 20 * 2 ^ 20 := Nat.mul_le_mul hb hb
      _ = _ := by decide
  have hm : IsQ (Float64.mul x y) ((N * N : Nat) : Int) := IsQ.mul hx hy (by push_cast; grind) (by lia)
  have hh := IsQ.sqrt hm hN (by lia)
  have h2 : IsQ (Float64.mul 4611686018427387904 (Float64.sqrt (Float64.mul x y))) ((2 * (2 * N) : Nat) : Int) := IsQ.mul isQ_two hh (by push_cast; grind) (by lia)
  k_lift B
  revert X; unfold PG; k_fill; intro X
  (k_dflt (refine' enter ?zSz ?zXz ?zTz ?zk6z ?zk7z ?zk8z ?zk9z ?zkBz ?_ ?zc2z ?zc3z ?zc4z ?zc5z; (case zSz => assumption); (case zXz => assumption); (case zTz => assumption); (case zk6z => k_is); (case zk7z => k_is); (case zk8z => k_room); (case zk9z => first | exact BindsTo.of_eq rfl | exact binds_K (by k_in) rfl (by k_is) rfl rfl rfl | (refine' kp_binds ?zkxz ?zkez; (case zkxz => exact Frag.In.keeps (by assumption) (fun b o e => Sits.keep (by assumption) b o e)); (case zkez => exact fun _ => rfl))); (case zkBz => exact locs rfl); (case zc2z => exact rfl); (case zc3z => exact rfl); (case zc4z => exact rfl); (case zc5z => decide); k_whole; intro L' h' F' N'; (try dsimp only); (try k_fold)))
  (repeat' (first | (k_unfold; (try dsimp only)) | (k_end; kc_close) | (with_reducible ((k_here; refine truthy_q (by assumption) (by lia) ?_))) | (with_reducible ((with_reducible show wpAny _ _ (call (Value.builtin "math.isfinite") _ _) _ _ _); (k_here; refine isfinite_q (by assumption) ?_))) | (with_reducible ((with_reducible show wpAny _ _ (call (Value.builtin "math.sqrt") _ _) _ _ _); (k_here; refine sqrt_q rfl (by assumption) ?_))) | (with_reducible ((k_here; (try k_gentoks); (with_reducible refine wpAny_execs_cons ?_); (try dsimp only); (try k_fold)))) | walk1 | (dsimp only; walk1) | (leave1; (try dsimp only))))
  rename News _ _ _ _ => NZ
  refine sumprod_frame (n := 2) (u := fun j => if j = 0 then ((2 * N : Nat) : Int) else ((2 * N : Nat) : Int)) (v := fun j => if j = 0 then ((2 * N : Nat) : Int) else -((2 * N : Nat) : Int)) (f := fun j => if j = 0 then ((N * N : Nat) : Int) else -((N * N : Nat) : Int))
    rfl (by k_asm) (by k_asm) (src_tup (vs := [_, _]) ⟨_, (NZ _ (.tail _ (.head _))).1, rfl, _, rfl⟩) (src_tup (vs := [_, _]) ⟨_, (NZ _ (.head _)).1, rfl, _, rfl⟩) rfl rfl (by decide) (two_floats hx hh) (two_floats hy hh.neg) ?_ ?_ ?_ ?_
  · intro j hj
    split
    · push_cast; grind
    · push_cast; grind
  · intro j hj
    unfold Sm
    split <;> lia
  · intro j hj
    have : j = 0 ∨ j = 1 ∨ j = 2 := by lia
    unfold Sm
    rcases this with rfl | rfl | rfl <;> simp only [sumN, if_true, Nat.one_ne_zero, if_false] <;> lia
  · intro h' tk' r tr F2 N2 tt q
    have q0 : IsQ r 0 := by
      have e : sumN 2 (fun j => if j = 0 then ((N * N : Nat) : Int) else -((N * N : Nat) : Int)) = 0 := by simp only [sumN, if_true, Nat.one_ne_zero, if_false]; lia
      rwa [e] at q
    clear q
    (repeat' (first | (k_unfold; (try dsimp only)) | (k_end; kc_close) | (with_reducible ((k_here; refine div_q rfl (by assumption) (by lia) ?_))) | (with_reducible ((k_here; (try k_gentoks); (with_reducible refine wpAny_execs_cons ?_); (try dsimp only); (try k_fold)))) | walk1 | (dsimp only; walk1) | (leave1; (try dsimp only))))
    have e := hh.add (q0.div_zero h2 (by lia)) (by lia)
    rw [Int.add_zero] at e
    exact hq _ _ _ _ _ ⟨_, _, rfl, e, rfl⟩ .refl (Sits.of_fr (by k_asm) (fun _ h => nomatch h))
end
end Mine
end

-- RK
section
open PySem PySem.W PySem.Calls PyProof.Rows
set_option maxRecDepth 100000
namespace Mine
theorem len_led {prog : Program} {w : World} {A : Around} {E : Value → Shared → Prop} {s : Shared} {h₀ : Heap} {L a : Addr} {news : List (Addr × Obj)} {its : List Value} {c n : Nat} {Q : Value → Shared → Prop} (N : News h₀ L s.heap news) (hm : (a, listOf its.toArray c) ∈ news) (hn : its.length = n) (h66 : n ≤ 66)
    (h : ∀ t tk, Q (.int (n : Int) t) { s with toks := tk }) : wpAny (model prog w) A (call (.builtin "len") [.ref a]) Q E s :=
  len_list (N.isList hm) (by rw [List.size_toArray, hn]; lia) (by rw [List.size_toArray, hn]; exact h _ _)
theorem zeros_led {prog : Program} {w : World} {A : Around} {E : Value → Shared → Prop} {s : Shared} {h₀ : Heap} {L a : Addr} {m : Str → Option Value} {news : List (Addr × Obj)} {v : Value} {c n : Nat} {u : Tok} {Q : Value → Shared → Prop} (F : Fr h₀ L s.heap m) (N : News h₀ L s.heap news) (hm : (a, listOf #[v] c) ∈ news) (h66 : n ≤ 66)
    (h : ∀ D h', Fr h₀ L h' m → News h₀ L h' ((D, listOf (List.replicate n v).toArray 0) :: news) → (∀ p ∈ news, p.1 < D) → Q (.ref D) { s with heap := h' }) : wpAny (model prog w) A (binaryOp .Mult (.ref a) (.int (n : Int) u)) Q E s :=
  KMa.mul (vs := [v]) F N (N.isList hm) (by lia) (by lia) (by simp; lia) (by simp) h
theorem allLt_mono {d e : Nat} : ∀ {l : List (Addr × Obj)}, AllLt d l → d < e → AllLt e l
  | [], _, _ => trivial
  | _ :: _, h, he => ⟨Nat.lt_trans h.1 he, allLt_mono h.2 he⟩
theorem allLt_ne {d : Nat} : ∀ {l : List (Addr × Obj)}, AllLt d l → ∀ p ∈ l, p.1 ≠ d
  | [], _, _, hp => nomatch hp
  | q :: r, h, p, hp => by
    rcases List.mem_cons.mp hp with rfl | hp
    · exact Nat.ne_of_lt h.1
    · exact allLt_ne h.2 p hp
theorem iter_led {prog : Program} {w : World} {A : Around} {E : Value → Shared → Prop} {s : Shared} {h₀ : Heap} {L a : Addr} {m : Str → Option Value} {news : List (Addr × Obj)} {its : Array Value} {c : Nat} {Q : Value → Shared → Prop} (F : Fr h₀ L s.heap m) (N : News h₀ L s.heap news) (hm : (a, listOf its c) ∈ news)
    (h : ∀ I h', Fr h₀ L h' m → News h₀ L h' ((I, litObj a ((0 : Nat) : Int)) :: news) → (∀ p ∈ news, p.1 < I) → Q (.ref I) { s with heap := h' }) : wpAny (model prog w) A (call (.builtin "iter") [.ref a]) Q E s := by
  refine call_function_entry (by decide +kernel) (by decide +kernel) kdk_entry_iter (kdk_args_iter _) ?_
  unfold Builtin.«iter»
  refine wpAny_bind (m := someArgs "iter" 1 2 _) (wpAny_of_eq (a := [Value.ref a]) (by first | rfl | kernel_rfl!) ?_)
  show wpAny _ _ (pyIter (.ref a) >>= _) _ _ _
  refine wpAny_bind (wpAny_pyIter_list (N.isList hm) ?_)
  exact wpAny_pure ⟨_, rfl, h _ _ (F.push _) (News.push F N _ rfl) (fun q hq => Heap.lt_size (N q hq).1)⟩
theorem allLt_lt {d : Nat} : ∀ {l : List (Addr × Obj)}, AllLt d l → ∀ p ∈ l, p.1 < d
  | [], _, _, hp => nomatch hp
  | q :: r, h, p, hp => by
    rcases List.mem_cons.mp hp with rfl | hp
    · exact h.1
    · exact allLt_lt h.2 p hp
/-- the k-th of the sorted pairs -/
theorem srt_pick {vs ks : List Value} {ρ : Nat → Nat} {TL : List (Addr × Obj)} (hk : ∀ k, k < vs.length → ∃ j T t, j < vs.length ∧ ρ j = k ∧ ks[k]? = some (.ref T) ∧ (T, pairObj (vs.getD j .none) (.int (j : Int) t)) ∈ TL) :
    ∃ (pj : Nat → Nat) (Tk : Nat → Addr) (tk : Nat → Tok), ∀ k, k < vs.length → pj k < vs.length ∧ ρ (pj k) = k ∧ ks[k]? = some (.ref (Tk k)) ∧ (Tk k, pairObj (vs.getD (pj k) .none) (.int (pj k : Int) (tk k))) ∈ TL := by
  classical
  refine ⟨fun k => if h : k < vs.length then (hk k h).choose else 0, fun k => if h : k < vs.length then (hk k h).choose_spec.choose else 0, fun k => if h : k < vs.length then (hk k h).choose_spec.choose_spec.choose else 0, fun k h => ?_⟩
  simp only [dif_pos h]
  exact (hk k h).choose_spec.choose_spec.choose_spec
/-- what has been filled in when k things are through -/
structure RJ (vs : List Value) (ρ : Nat → Nat) (res vp l : Addr) (ks : List Value) (cv c : Nat) (TL : List (Addr × Obj)) (k : Nat) (m : Str → Option Value) (W : List (Addr × Obj)) : Prop where
  go : ∃ (rs : List Value) (cr : Nat) (fi : UInt64) (ti : Tok), W = (res, listOf rs.toArray cr) :: (vp, listOf ks.toArray cv) :: (l, listOf vs.toArray c) :: TL ∧ m "result" = some (.ref res) ∧ m "i" = some (.float fi ti) ∧
    IsQ fi (4 * k - 4 - 2 * ((vs.length : Int) - 1)) ∧ rs.length = vs.length ∧ ∀ j, j < vs.length → ρ j < k → ∃ x t, rs[j]? = some (.float x t) ∧ IsQ x (4 * ρ j - 2 * ((vs.length : Int) - 1))
theorem isQ_one : IsQ (Float64.ofFrac (decide (1 + 1 < 0) != decide (2 < 0)) (1 + 1 : Int).natAbs (Int.natAbs 2)) 4 := by
  refine isQ_right (right_ofFrac 2 (N := 2) (by decide)) (by decide) ?_ (.inr rfl) (by decide)
  show 2 * 2 ^ 1074 = 2 * (4 * 2 ^ 1072)
  rw [show (1074 : Nat) = 1072 + 2 from rfl, Nat.pow_add]
  lia
theorem rank_step {fi : UInt64} {k n : Nat} (h : IsQ fi (4 * k - 4 - 2 * ((n : Int) - 1))) (hk : k + n ≤ 200) : IsQ (Float64.add fi (Float64.ofInt 1)) (4 * ((k + 1 : Nat) : Int) - 4 - 2 * ((n : Int) - 1)) := by
  have e := h.add (isQ_ofInt (i := 1) (by decide)) (by lia)
  rwa [show 4 * (k : Int) - 4 - 2 * ((n : Int) - 1) + 4 * 1 = 4 * ((k + 1 : Nat) : Int) - 4 - 2 * ((n : Int) - 1) by lia] at e
theorem rank_fill {rs : List Value} {n k p : Nat} {ρ : Nat → Nat} {fi : UInt64} {t : Tok} (hrs : rs.length = n) (h : IsQ fi (4 * k - 4 - 2 * ((n : Int) - 1))) (hp : p < n) (hp2 : ρ p = k) (h66 : n ≤ 66) (hk : k < n)
    (inj : ∀ j, j < n → ρ j = ρ p → j = p) (all : ∀ j, j < n → ρ j < k → ∃ x t, rs[j]? = some (.float x t) ∧ IsQ x (4 * ρ j - 2 * ((n : Int) - 1))) :
    ∀ j, j < n → ρ j < k + 1 → ∃ x t', (rs.set p (.float (Float64.add fi (Float64.ofFrac (decide (1 + 1 < 0) != decide (2 < 0)) (1 + 1 : Int).natAbs (Int.natAbs 2))) t))[j]? = some (.float x t') ∧ IsQ x (4 * ρ j - 2 * ((n : Int) - 1)) := by
  intro j hj hr
  by_cases e : j = p
  · subst e
    refine ⟨_, _, List.getElem?_set_self (by lia), ?_⟩
    have e := h.add isQ_one (by lia)
    rwa [show 4 * (k : Int) - 4 - 2 * ((n : Int) - 1) + 4 = 4 * (ρ j : Int) - 2 * ((n : Int) - 1) by lia] at e
  · rw [List.getElem?_set_ne (Ne.symm e)]
    refine all j hj (Nat.lt_of_le_of_ne (by lia) fun z => e (inj j hj (z.trans hp2.symm)))
def RankOut (l : Addr) (vs : List Value) (c : Nat) (ρ : Nat → Nat) (r : Option Value) (V' : List (Addr × Obj)) : Prop :=
  ∃ (D : Addr) (rs : List Value) (c' : Nat), r = some (.ref D) ∧ V' = [(D, listOf rs.toArray c'), (l, listOf vs.toArray c)] ∧ rs.length = vs.length ∧ ∀ j, j < vs.length → ∃ (x : UInt64) (t : Tok), rs[j]? = some (.float x t) ∧ IsQ x (4 * (ρ j : Int) - 2 * ((vs.length : Int) - 1))
local macro_rules | `(tactic| k_all) => `(tactic| first | assumption | exact allLt_ne (by assumption) | exact allLt_ne (allLt_mono (by assumption) (by lia)))
section
variable {w : World} {base : Heap}
set_option maxHeartbeats 8000000 in
theorem rank_t {l : Addr} {vs : List Value} {c : Nat} {st : UInt64} {t : Tok} {ρ : Nat → Nat} (Rk : Ranked w base vs ρ) (h2 : 2 ≤ vs.length) (h66 : vs.length ≤ 66) (hst : IsQ st (-2 * ((vs.length : Int) - 1))) :
    DoesA w 40 base 278 ⟨[.ref l], [("start", .float st t)]⟩ [(l, listOf vs.toArray c)] (RankOut l vs c ρ) := by
  intro p loose mean mg mb dp un gd outer g s R S V hd hu hq he
  obtain ⟨B, X, T, XB, TB, KD⟩ := S
  k_lift B
  revert X; unfold PG; k_fill; intro X
  (k_dflt (refine' enter ?zSz ?zXz ?zTz ?zk6z ?zk7z ?zk8z ?zk9z ?zkBz ?_ ?zc2z ?zc3z ?zc4z ?zc5z; (case zSz => assumption); (case zXz => assumption); (case zTz => assumption); (case zk6z => k_is); (case zk7z => k_is); (case zk8z => k_room); (case zk9z => first | exact BindsTo.of_eq rfl | exact binds_K (by k_in) rfl (by k_is) rfl rfl rfl | (refine' kp_binds ?zkxz ?zkez; (case zkxz => exact Frag.In.keeps (by assumption) (fun b o e => Sits.keep (by assumption) b o e)); (case zkez => exact fun _ => rfl))); (case zkBz => exact locs rfl); (case zc2z => exact rfl); (case zc3z => exact rfl); (case zc4z => exact rfl); (case zc5z => decide); k_whole; intro L' h' F' N'; (try dsimp only); (try k_fold)))
  (repeat' (first | (k_unfold; (try dsimp only)) | (k_end; kc_close) | (with_reducible ((k_here; (with_reducible show wpAny _ _ (call (Value.builtin "sorted") [Value.ref _] _) _ _ _); k_dflt (refine' sorted_frame ?zh66z ?zh2z ?zRkz ?zBz ?zFz ?zXz ?zNz ?zndz ?zTz ?zXBz ?zTBz ?zDz ?zAz ?zckz ?zhdz ?zhuz ?_; (case zRkz => assumption); (case zh66z => assumption); (case zh2z => assumption); (case zFz => k_asm); (case zBz => k_asm); (case zXz => k_asm); (case zNz => k_asm); (case zndz => assumption); (case zTz => k_asm); (case zXBz => assumption); (case zTBz => assumption); (case zDz => assumption); (case zAz => exact rfl); (case zckz => exact rfl); (case zhdz => k_room); (case zhuz => k_units)); (intro h₀' h' tk' vp ks cv TL T₂ F' N' ndA hl hk hTL B' X' T' D'; (try k_lift B'); (try k_sweep))))) | (with_reducible ((k_here; (with_reducible show wpAny _ _ (call (Value.type "zip") [Value.ref _, Value.ref _]) _ _ _); k_dflt (refine' zip_frame ?zBz ?zFz ?zXz ?zNz ?zTz ?zXBz ?zTBz ?zDz ?zAz ?zckz ?zn1z ?zn2z ?zn3z ?zhdz ?zhuz ?_; (case zFz => k_asm); (case zBz => k_asm); (case zXz => k_asm); (case zNz => k_asm); (case zTz => k_asm); (case zXBz => assumption); (case zTBz => assumption); (case zDz => assumption); (case zAz => exact rfl); (case zckz => exact rfl); (case zn1z => k_ne); (case zn2z => k_ne); (case zn3z => k_ne); (case zhdz => k_room); (case zhuz => k_units)); (intro h₀' h' tk' z TI TO i1 T₂ F' N' nd' B' X' T' D'; (try dsimp only [List.nil_append, List.cons_append] at N'); (try k_lift B'); (try k_sweep))))) | (with_reducible ((k_here; (with_reducible show wpAny _ _ (binaryOp Operator.Mult (Value.ref _) (Value.int _ _)) _ _ _); k_dflt (refine' zeros_led ?zFz ?zNz ?zmz ?zhz ?_; (case zFz => k_asm); (case zNz => k_asm); (case zmz => k_mem); (case zhz => assumption)); (intro res h' F' N' lb; (try k_lt lb); (try k_sweep))))) | (with_reducible ((with_reducible show wpAny _ _ (call (Value.builtin "len") _ _) _ _ _); (k_here; (with_reducible show wpAny _ _ (call (Value.builtin "len") [Value.ref _]) _ _ _); k_dflt (refine' len_led ?zNz ?zmz ?znz ?zhz ?_; (case zNz => k_asm); (case zmz => k_mem); (case znz => assumption); (case zhz => assumption)); (intro t' tk'; (try k_sweep))))) | (with_reducible ((k_here; (try k_gentoks); (with_reducible refine wpAny_execs_cons ?_); (try dsimp only); (try k_fold)))) | walk1 | (dsimp only; walk1) | (leave1; (try dsimp only))))
  refine wpAny_For ?_
  (repeat' (first | (k_unfold; (try dsimp only)) | (k_end; kc_close) | (with_reducible ((k_here; (with_reducible show wpAny _ _ (call (Value.builtin "iter") [Value.ref _]) _ _ _); k_dflt (refine' iter_led ?zFz ?zNz ?zmz ?_; (case zFz => k_asm); (case zNz => k_asm); (case zmz => k_mem)); (intro itr h' F' N' li; (try k_lt li); (try k_sweep))))) | (with_reducible ((k_here; (try k_gentoks); (with_reducible refine wpAny_execs_cons ?_); (try dsimp only); (try k_fold)))) | walk1 | (dsimp only; walk1) | (leave1; (try dsimp only))))
  rename_i _ _ _ _ _ _ _ _ _ l0 _ la _ _ _ _ _ ig di _ lc ld e0 _ _ _ _ _ _ le _ _ tu _ lf _ _ _ _ _ _ gb dg _ _ _ lg lh _ _ _ _ _ _ _ _ _ _ _ _ _ _ _ _ _ _ _ _ _ _ _ _ _ _ _ _ _ _ _ _ _ _ _ _ _ _ _ _ _ _ _ _ _ _ _ _ _ _ _ _ _
  rename Fr _ _ _ _ => FF
  rename News _ _ _ _ => NN
  refine' iter_gb (gb := gb) ?B ?F ?X ?N ?T ?XB ?TB ?D ?A ?ck ?m ?c ?hd ?hu ?_
  case F => exact FF
  case B => k_asm
  case X => k_asm
  case N => exact NN
  case T => k_asm
  case XB => assumption
  case TB => assumption
  case D => assumption
  case A => exact rfl
  case ck => exact rfl
  case m => k_mem
  case c => exact rfl
  case hd => k_room
  case hu => k_units
  intro h₁ h' tk' FR
  obtain ⟨pj, Tk, tk₀, hp⟩ := srt_pick hk
  rename KtsTurn _ _ _ => tB
  rename KtsTurn _ g _ => tA
  have f0 : GbApart gb dg itr ig di tu := by constructor <;> lia
  have aTL : ∀ b : Nat, @LT.lt Nat _ vp b → ∀ q ∈ TL, q.1 < b := fun b hb q hq => by
    have := allLt_mono hTL hb
    exact allLt_lt this q hq
  have dl : ∀ o : Obj, ∀ q ∈ (res, o) :: (vp, listOf ks.toArray cv) :: (l, listOf vs.toArray c) :: TL, @LT.lt Nat _ q.1 di := fun o =>
    List.forall_mem_cons.mpr ⟨lc.1, List.forall_mem_cons.mpr ⟨lc.2.2.1, List.forall_mem_cons.mpr ⟨lc.2.2.2.1, allLt_lt lc.2.2.2.2⟩⟩⟩
  have o2 : (@LE.le Nat _ di gb ∧ @LE.le Nat _ di dg ∧ @LE.le Nat _ di itr ∧ @LE.le Nat _ di ig ∧ @LE.le Nat _ di di ∧ @LE.le Nat _ di tu) := by refine ⟨?_, ?_, ?_, ?_, ?_, ?_⟩ <;> lia
  obtain ⟨o2a, o2b, o2c, o2d, o2e, o2f⟩ := o2
  have ndi : ∀ {a b : Nat}, @LT.lt Nat _ a di → @LE.le Nat _ di b → a ≠ b := fun h1 h2 => Nat.ne_of_lt (Nat.lt_of_lt_of_le h1 h2)
  have hOv : ∀ (b : Heap) (W : List (Addr × Obj)), (vp, listOf ks.toArray cv) ∈ W → (∀ q ∈ TL, q ∈ W) → base.StaysIn b → (∀ q ∈ W, b.get? q.1 = some q.2) → Over w b vp ks vs.length (fun k => vs.getD (pj k) .none) Tk := by
    intro b W hv hT hb hW
    refine ⟨hl, ⟨_, hW _ hv, rfl, _, rfl⟩, fun k hk => by rw [List.getElem?_toArray]; exact (hp k hk).2.2.1, fun k hk => ⟨_, _, hW _ (hT _ (hp k hk).2.2.2), rfl, _, rfl⟩, fun k hk => (Rk.same _ _ (hp k hk).1 (hp k hk).1).hx, fun i j hi hj => ?_⟩
    have a := (Rk.same (pj i) (pj j) (hp i hi).1 (hp j hj).1).mono hb
    rwa [show decide (pj i = pj j) = decide (i = j) from decide_eq_decide.mpr ⟨fun e => by rw [← (hp i hi).2.1, e, (hp j hj).2.1], fun e => by rw [e]⟩] at a
  have FR2 := by
    refine' FR.sub (V' := gbL gb dg itr ig di tu (gbObj dg 0 _ (some .none) (some .none) false false false (.ref itr) (.ref ig) 0 _ (some .none)) (litObj vp ((0 : Nat) : Int)) _ ++ ((res, _) :: (vp, _) :: (l, _) :: TL)) ?hV
    case' hV => skip
    dsimp only [gbL, List.cons_append, List.nil_append]
    repeat' (first | refine List.forall_mem_cons.mpr ⟨by k_mem, ?_⟩)
    intro q hq
    repeat (first | exact hq | apply List.mem_cons_of_mem)
  refine' for_gb (c := 0) (n := vs.length) (vp := vp) (ks := ks) (key := fun k => vs.getD (pj k) .none) (Tk := Tk) (J := RJ vs ρ res vp l ks cv c TL) rfl rfl ?r1 ?r2 f0 ?r3 ?hO ?hW ?turn ?fin ?hJ ?hH FR2
  case r1 => k_room
  case r2 => k_units
  case r3 => lia
  case hH => exact .start _ _ _
  case hJ =>
    refine ⟨_, 0, _, _, rfl, rfl, rfl, ?_, by simp, fun j _ h => absurd h (Nat.not_lt_zero _)⟩
    have e := hst.sub (isQ_ofInt (i := 1) (by decide)) (by lia)
    rwa [show -2 * ((vs.length : Int) - 1) - 4 * 1 = 4 * ((0 : Nat) : Int) - 4 - 2 * ((vs.length : Int) - 1) by lia] at e
  case hO =>
    intro k m W b hJ hb hW
    obtain ⟨rs, cr, fi, ti, rfl, _⟩ := hJ.go
    exact hOv b _ (.tail _ (.head _)) (fun q hq => .tail _ (.tail _ (.tail _ hq))) hb hW
  case hW =>
    intro k m W hJ
    obtain ⟨rs, cr, fi, ti, rfl, _⟩ := hJ.go
    exact fun q hq => ⟨ndi (dl _ q hq) o2a, ndi (dl _ q hq) o2b, ndi (dl _ q hq) o2c, ndi (dl _ q hq) o2d, ndi (dl _ q hq) o2e, ndi (dl _ q hq) o2f⟩
  case fin =>
    intro m W h₃ s₃ hJ FF hs
    obtain ⟨rs, cr, fi, ti, rfl, hres, hi, _, hrs, hall⟩ := hJ.go
    obtain ⟨T0, F, N, B, X, T, _, _, D⟩ := FF
    rw [patch hres] at F
    refine st_elim (s := s) (s₃ := s₃) hs fun hh tt e₃ => ?_
    clear hs; subst e₃
    clear FF NN FR FR2
    show wpAny _ _ (execs _ _) _ _ _
    (repeat' (first | (k_unfold; (try dsimp only)) | (k_end; kc_close) | (with_reducible ((k_here; (try k_gentoks); (with_reducible refine wpAny_execs_cons ?_); (try dsimp only); (try k_fold)))) | walk1 | (dsimp only; walk1) | (leave1; (try dsimp only))))
    exact hq _ _ _ _ _ ⟨res, rs, cr, rfl, rfl, hrs, fun j hj => hall j hj (Rk.below j hj)⟩ (tA.trans (tB.trans T0)) (Sits.of_fr (by k_asm) (cb_drop (by assumption) (by kcj_all)))
  case turn =>
    intro k m W s₃ h₃ D' gr dgr num t1 t2 t3 hk1 hJ la' lb' lc' hWn FF hs
    obtain ⟨rs, cr, fi, ti, rfl, hres, hi, hfi, hrs, hall⟩ := hJ.go
    obtain ⟨hp1, hp2, hp3, hp4⟩ := hp k hk1
    obtain ⟨T0, F, N, B, X, T, _, _, D⟩ := FF
    rw [patch hres, patch hi] at F
    refine st_elim (s := s) (s₃ := s₃) hs fun hh tt e₃ => ?_
    clear hs; subst e₃
    clear FF NN FR FR2
    have lk : @LT.lt Nat _ (Tk k) vp := allLt_lt hTL _ hp4
    have N2 : News h₃ _ hh ((Tk k, pairObj (vs.getD (pj k) .none) (.int (pj k : Int) (tk₀ k))) :: _) := List.forall_mem_cons.mpr ⟨N _ (by simp only [List.mem_append, List.mem_cons]; right; right; right; right; exact hp4), N⟩
    dsimp only [gbL, List.cons_append, List.nil_append] at N2
    clear N
    (repeat' (first | (k_unfold; (try dsimp only)) | (k_end; kc_close) | (with_reducible ((k_here; (try k_gentoks); (with_reducible refine wpAny_execs_cons ?_); (try dsimp only); (try k_fold)))) | walk1 | (dsimp only; walk1) | (leave1; (try dsimp only))))
    have hOw := fun (b : Heap) (hb : base.StaysIn b) (hW : ∀ q ∈ (res, listOf rs.toArray cr) :: (vp, listOf ks.toArray cv) :: (l, listOf vs.toArray c) :: TL, b.get? q.1 = some q.2) => hOv b _ (.tail _ (.head _)) (fun q hq => .tail _ (.tail _ (.tail _ hq))) hb hW
    refine' list_gr (gb := gb) (dg := dg) (itr := itr) (ig := ig) (di := di) (tu := tu) (gr := gr) (dgr := dgr) (W := (res, listOf rs.toArray cr) :: (vp, listOf ks.toArray cv) :: (l, listOf vs.toArray c) :: TL) f0 hk1 hOw ?ap ?l2 ?l1 ?l3 ?l4 ?l5 ?l6 ?l7 ?l8 ?l9 ?l10 ?l11 ?l12 ?l13 ?l14 ?l15 ?_
    case l4 => k_asm
    case l11 => kcj_all
    case ap =>
      obtain ⟨x1, x2, x3, x4, x5, x6⟩ := la'
      clear la lb lc ld le lf lg lh li
      simp only [List.mem_cons, List.mem_nil_iff, or_false, forall_eq_or_imp, forall_eq]
      exact ⟨⟨Nat.ne_of_gt (Nat.lt_trans x1 lb'), Nat.ne_of_gt (Nat.lt_trans x2 lb'), Nat.ne_of_gt (Nat.lt_trans x3 lb'), Nat.ne_of_gt (Nat.lt_trans x4 lb'), Nat.ne_of_gt (Nat.lt_trans x5 lb'), Nat.ne_of_gt (Nat.lt_trans x6 lb')⟩, Nat.ne_of_gt x1, Nat.ne_of_gt x2, Nat.ne_of_gt x3, Nat.ne_of_gt x4, Nat.ne_of_gt x5, Nat.ne_of_gt x6⟩
    case l1 => k_asm
    case l2 => assumption
    case l3 => assumption
    case l5 => assumption
    case l6 => assumption
    case l7 => assumption
    case l8 => assumption
    case l9 => exact rfl
    case l10 => exact rfl
    case l14 => k_room
    case l15 => k_units
    case l12 =>
      intro q hq
      repeat (first | exact hq | apply List.mem_cons_of_mem)
    case l13 =>
      exact fun q hq => ⟨ndi (dl _ q hq) (by lia), ndi (dl _ q hq) (by lia), ndi (dl _ q hq) o2a, ndi (dl _ q hq) o2b, ndi (dl _ q hq) o2c, ndi (dl _ q hq) o2d, ndi (dl _ q hq) o2e, ndi (dl _ q hq) o2f⟩
    intro h₄ h₅ tk₄ lg cg go io H4 FF ne4
    have ng : @Ne Nat lg res := (ne4 (res, listOf rs.toArray cr) (List.mem_append_right _ (.head _))).symm
    have ng2 : @Ne Nat lg (Tk k) := (ne4 _ (List.mem_append_right _ (.tail _ (.tail _ (.tail _ hp4))))).symm
    obtain ⟨T4, F, N, B, X, T, _, _, D⟩ := FF
    have N5 : News h₄ _ h₅ ((Tk k, pairObj (vs.getD (pj k) .none) (.int (pj k : Int) (tk₀ k))) :: _) := List.forall_mem_cons.mpr ⟨N _ (by simp only [List.mem_append, List.mem_cons]; right; right; right; right; exact hp4), N⟩
    dsimp only [gbL, List.cons_append, List.nil_append] at N5
    clear N
    (repeat' (first | (k_unfold; (try dsimp only)) | (k_end; kc_close) | (with_reducible ((k_here; (try k_gentoks); (with_reducible refine wpAny_execs_cons ?_); (try dsimp only); (try k_fold)))) | walk1 | (dsimp only; walk1) | (leave1; (try dsimp only))))
    refine wpAny_For ?_
    k_steps
    refine' pyIter_led (by k_asm) (by k_asm) ?m1 ?_
    case m1 => k_mem
    intro I h₆ F6 N6 l6
    k_lt l6
    refine' for_one (hh := h₄) (base := base) (outer := outer) (A₀ := kAt dp un gd outer) rfl ?m2 ?m3 ⟨.refl, F6, N6, (by assumption), (by assumption), (by assumption), (by assumption), (by assumption), (by assumption)⟩ ?_
    case m2 => k_mem
    case m3 => k_all
    intro h₇ FF
    obtain ⟨T7, F, N, B, X, T, _, _, D⟩ := FF
    (repeat' (first | (k_unfold; (try dsimp only)) | (k_end; kc_close) | (with_reducible ((k_here; (try k_gentoks); (with_reducible refine wpAny_execs_cons ?_); (try dsimp only); (try k_fold)))) | walk1 | (dsimp only; walk1) | (leave1; (try dsimp only))))
    refine' set_led (vs := rs) (by k_asm) (by k_asm) ?m4 (by lia) (by lia) ?_
    case m4 => k_upd
    intro h₈ F8 N8
    k_steps
    refine' ⟨⟨rfl, _, _, _, ⟨.refl, F8, N8, (by assumption), (by assumption), (by assumption), (by assumption), (by assumption), (by assumption)⟩, ?m5, ?m6, ?_⟩⟩
    case m5 => k_all
    case m6 => k_mem
    intro h₉ FF
    obtain ⟨T9, F, N, B, X, T, _, _, D⟩ := FF
    (repeat' (first | (k_unfold; (try dsimp only)) | (k_end; kc_close) | (with_reducible ((k_here; (try k_gentoks); (with_reducible refine wpAny_execs_cons ?_); (try dsimp only); (try k_fold)))) | walk1 | (dsimp only; walk1) | (leave1; (try dsimp only))))
    rename News _ _ _ _ => NZ
    rename Fr _ _ _ _ => FZ
    refine ⟨⟨rfl, h₄, _, _, go, io, H4, ⟨_, cr, _, _, rfl, rfl, rfl, ?_, ?_, ?_⟩, ⟨T0.trans T4, FZ, fun q hq => NZ q (.tail _ (.tail _ hq)), (by assumption), (by assumption), (by assumption), (by assumption), (by assumption), (by assumption)⟩, rfl⟩⟩
    · exact rank_step hfi (by lia)
    · rw [List.length_set]; exact hrs
    · exact rank_fill hrs hfi hp1 hp2 h66 hk1 (fun j hj => Rk.inj j (pj k) hj hp1) hall
end
end Mine
end

-- RI
section
open PySem PySem.W PySem.Calls PyProof.Rows
set_option maxRecDepth 100000
namespace Mine
section
variable {prog : Program} {w : World} {A : Around} {E : Value → Shared → Prop} {s : Shared} {Q : Value → Shared → Prop}
theorem is_int_self {p : Int} {t : Tok} (ht : t ≠ 0) (h : Q (.bool true) s) : wpAny (model prog w) A (compareOp .Is (.int p t) (.int p t)) Q E s := by
  have h0 : (t == 0 || t == 0) = false := by simp [ht]
  show wpAny _ _ (isSame (.int p t) (.int p t) >>= fun b => (pure (Value.bool b) : Sem Value)) _ _ _
  refine wpAny_bind ?_
  unfold isSame
  dsimp only
  split
  · unfold isSame.cachedInt
    rw [h0]
    exact wpAny_bind (wpAny_rule (wpAny_pure (wpAny_pure h)))
  · unfold isSame.created
    rw [h0]
    simp only [Bool.false_eq_true, if_false, beq_self_eq_true, if_true]
    exact wpAny_pure (wpAny_pure h)
theorem is_int_other {p q : Int} {t u : Tok} (ht : t ≠ 0) (hu : u ≠ 0) (htu : t ≠ u) (hpq : p ≠ q) (h : Q (.bool false) s) : wpAny (model prog w) A (compareOp .Is (.int p t) (.int q u)) Q E s := by
  have h0 : (t == 0 || u == 0) = false := by simp [ht, hu]
  have h1 : (p == q) = false := by simp [hpq]
  have h2 : (t == u) = false := by simp [htu]
  show wpAny _ _ (isSame (.int p t) (.int q u) >>= fun b => (pure (Value.bool b) : Sem Value)) _ _ _
  refine wpAny_bind ?_
  unfold isSame
  dsimp only
  rw [h1]
  simp only [Bool.false_and, Bool.false_eq_true, if_false]
  unfold isSame.created
  rw [h0, h2]
  simp only [Bool.false_eq_true, if_false, Bool.not_false, if_true]
  exact wpAny_pure (wpAny_pure h)
end
/-- how many lie below -/
def rk {α : Type} (lt : α → α → Bool) (l : List α) (x : α) : Nat := l.countP fun y => lt y x
structure Strict {α : Type} (lt : α → α → Bool) (l : List α) : Prop where
  irr : ∀ x ∈ l, lt x x = false
  tr : ∀ x ∈ l, ∀ y ∈ l, ∀ z ∈ l, lt x y = true → lt y z = true → lt x z = true
  tot : ∀ x ∈ l, ∀ y ∈ l, x ≠ y → lt x y = true ∨ lt y x = true
theorem countP_lt {α : Type} {p q : α → Bool} : ∀ {l : List α}, (∀ y ∈ l, p y = true → q y = true) → (∃ x ∈ l, p x = false ∧ q x = true) → l.countP p < l.countP q
  | [], _, ⟨_, hx, _⟩ => nomatch hx
  | y :: r, h, ⟨x, hx, h1, h2⟩ => by
    have hr : r.countP p ≤ r.countP q := List.countP_mono_left fun z hz => h z (.tail _ hz)
    rw [List.countP_cons, List.countP_cons]
    rcases List.mem_cons.mp hx with rfl | hx
    · rw [h1, h2]; simp; lia
    · have := countP_lt (l := r) (fun z hz => h z (.tail _ hz)) ⟨x, hx, h1, h2⟩
      have hy := h y (.head _)
      cases hp : p y with
      | false => simp; lia
      | true => rw [hy hp]; simp; lia
theorem Strict.mono {α : Type} {lt : α → α → Bool} {l : List α} (S : Strict lt l) {x y : α} (hx : x ∈ l) (hy : y ∈ l) (h : lt x y = true) : rk lt l x < rk lt l y :=
  countP_lt (fun z hz hzx => S.tr z hz x hx y hy hzx h) ⟨x, hx, S.irr x hx, h⟩
theorem Strict.below {α : Type} {lt : α → α → Bool} {l : List α} (S : Strict lt l) {x : α} (hx : x ∈ l) : rk lt l x < l.length := by
  have := countP_lt (p := fun y => lt y x) (q := fun _ => true) (l := l) (fun _ _ _ => rfl) ⟨x, hx, S.irr x hx, rfl⟩
  simpa [rk] using this
theorem Strict.iff {α : Type} {lt : α → α → Bool} {l : List α} (S : Strict lt l) {x y : α} (hx : x ∈ l) (hy : y ∈ l) (hxy : x ≠ y) : decide (rk lt l x < rk lt l y) = lt x y := by
  cases h : lt x y with
  | true => exact decide_eq_true (S.mono hx hy h)
  | false =>
    rcases S.tot x hx y hy hxy with h' | h'
    · rw [h] at h'; cases h'
    · exact decide_eq_false (Nat.not_lt.mpr (Nat.le_of_lt (S.mono hy hx h')))
theorem Strict.inj {α : Type} {lt : α → α → Bool} {l : List α} (S : Strict lt l) {x y : α} (hx : x ∈ l) (hy : y ∈ l) (e : rk lt l x = rk lt l y) : ¬ x ≠ y := fun hxy => by
  rcases S.tot x hx y hy hxy with h | h
  · have := S.mono hx hy h; lia
  · have := S.mono hy hx h; lia

theorem nodup_key {α β : Type} {f : α → β} {l : List α} (h : (l.map f).Nodup) {x y : α} (hx : x ∈ l) (hy : y ∈ l) (hxy : x ≠ y) : f x ≠ f y := by
  induction l with
  | nil => cases hx
  | cons z r ih =>
    simp only [List.map_cons, List.nodup_cons] at h
    rcases List.mem_cons.mp hx with h1 | h1 <;> rcases List.mem_cons.mp hy with h2 | h2
    · exact absurd (h1.trans h2.symm) hxy
    · intro e; rw [h1] at e; exact h.1 (e ▸ List.mem_map_of_mem h2)
    · intro e; rw [h2] at e; exact h.1 (e ▸ List.mem_map_of_mem h1)
    · exact ih h.2 h1 h2
theorem at_ne {α : Type} {l : List α} {d : α} (h : l.Nodup) {i j : Nat} (hi : i < l.length) (hj : j < l.length) (hij : i ≠ j) : l.getD i d ≠ l.getD j d := by
  rw [List.getD, List.getD, List.getElem?_eq_getElem hi, List.getElem?_eq_getElem hj]
  exact fun e => hij ((List.getElem_inj h).mp e)
theorem at_mem {α : Type} {l : List α} {d : α} {i : Nat} (hi : i < l.length) : l.getD i d ∈ l := by
  rw [List.getD, List.getElem?_eq_getElem hi]
  exact List.getElem_mem hi
theorem nodup_of_key {α β : Type} {f : α → β} {l : List α} (h : (l.map f).Nodup) : l.Nodup := by
  rw [List.nodup_iff_pairwise_ne, List.pairwise_map] at h
  exact h.imp fun hxy e => hxy (congrArg f e)

/-- whole numbers, all unlike, each a thing of its own -/
theorem ranked_ints {w : World} {b : Heap} (zs : List (Int × Tok)) (h1 : (zs.map (·.1)).Nodup) (h2 : (zs.map (·.2)).Nodup) (h3 : ∀ z ∈ zs, z.2 ≠ 0) :
    Ranked w b (zs.map fun z => Value.int z.1 z.2) (fun i => rk (fun (x y : Int × Tok) => decide (x.1 < y.1)) zs (zs.getD i (0, 0))) := by
  have S : Strict (fun (x y : Int × Tok) => decide (x.1 < y.1)) zs := ⟨fun x _ => by simp, fun x _ y _ z _ => by simp; lia, fun x hx y hy hxy => by
    have := nodup_key h1 hx hy hxy
    simp; lia⟩
  have nd := nodup_of_key h1
  have hg : ∀ i, i < zs.length → (zs.map fun z => Value.int z.1 z.2).getD i .none = .int (zs.getD i (0, 0)).1 (zs.getD i (0, 0)).2 := fun i hi => by
    rw [List.getD, List.getD, List.getElem?_map, List.getElem?_eq_getElem hi]; rfl
  have asks : ∀ i j, i < zs.length → j < zs.length → Asks w b ((zs.map fun z => Value.int z.1 z.2).getD i .none) ((zs.map fun z => Value.int z.1 z.2).getD j .none) (decide (i = j)) := fun i j hi hj => by
    rw [hg i hi, hg j hj]
    have mi := at_mem (d := ((0, 0) : Int × Tok)) hi
    have mj := at_mem (d := ((0, 0) : Int × Tok)) hj
    by_cases hij : i = j
    · subst hij
      rw [decide_eq_true rfl]
      exact ⟨rfl, rfl, true, fun _ => rfl, fun _ _ _ h => is_int_self (h3 _ mi) h, fun h => by cases h⟩
    · rw [decide_eq_false hij]
      have hne := at_ne (d := ((0, 0) : Int × Tok)) nd hi hj hij
      have p1 := nodup_key h1 mi mj hne
      have p2 := nodup_key h2 mi mj hne
      refine ⟨rfl, rfl, false, fun h => (by cases h), fun _ _ _ h => is_int_other (h3 _ mi) (h3 _ mj) p2 p1 h, fun _ _ _ _ _ _ _ _ h => eq_int ?_⟩
      rw [show ((zs.getD i (0, 0)).1 == (zs.getD j (0, 0)).1) = false by simpa using p1]
      exact h
  refine ⟨fun i hi => ?_, fun i j hi hj e => ?_, ⟨.type "int", rfl, fun v hv h _ => ?_, fun i j hi hj hij A E s Q _ _ _ h => ?_⟩, fun i j hi hj => ?_, fun i j hi hj A E s Q _ _ _ h => ?_⟩
  · rw [List.length_map] at hi ⊢
    exact S.below (at_mem hi)
  · rw [List.length_map] at hi hj
    exact Classical.byContradiction fun hij => S.inj (at_mem hi) (at_mem hj) e (at_ne nd hi hj hij)
  · obtain ⟨z, _, rfl⟩ := List.mem_map.mp hv
    exact Looks.of_pure rfl
  · rw [List.length_map] at hi hj
    rw [hg i hi, hg j hj]
    rw [S.iff (at_mem hi) (at_mem hj) (at_ne nd hi hj hij)] at h
    exact oneLt_int h
  · rw [List.length_map] at hi hj
    exact asks i j hi hj
  · rw [List.length_map] at hi hj
    rw [hg i hi, hg j hj]
    refine wpAny_eqBool_int ?_
    by_cases hij : i = j
    · subst hij
      rw [decide_eq_true rfl] at h
      rw [beq_self_eq_true]
      exact h
    · rw [decide_eq_false hij] at h
      have p1 := nodup_key h1 (at_mem (d := ((0, 0) : Int × Tok)) hi) (at_mem (d := ((0, 0) : Int × Tok)) hj) (at_ne nd hi hj hij)
      rw [show ((zs.getD i (0, 0)).1 == (zs.getD j (0, 0)).1) = false by simpa using p1]
      exact h
end Mine
end

-- RS
section
open PySem PySem.W PySem.Calls PyProof.Rows
set_option maxRecDepth 100000
namespace Mine
abbrev strLt (x y : Str × Tok) : Bool := decide (x.1.cps.toList < y.1.cps.toList)
section
variable {prog : Program} {w : World} {A : Around} {E : Value → Shared → Prop} {s : Shared} {Q : Value → Shared → Prop}
theorem is_str_self {p : Str} {t : Tok} (ht : t ≠ 0) (h : Q (.bool true) s) : wpAny (model prog w) A (compareOp .Is (.str p t) (.str p t)) Q E s := by
  have h0 : (t == 0 || t == 0) = false := by simp [ht]
  show wpAny _ _ (isSame (.str p t) (.str p t) >>= fun b => (pure (Value.bool b) : Sem Value)) _ _ _
  refine wpAny_bind ?_
  unfold isSame
  dsimp only
  unfold isSame.created
  rw [h0]
  simp only [Bool.false_eq_true, if_false, beq_self_eq_true, if_true]
  exact wpAny_pure (wpAny_pure h)
theorem is_str_other {p q : Str} {t u : Tok} (ht : t ≠ 0) (hu : u ≠ 0) (htu : t ≠ u) (hpq : p ≠ q) (h : Q (.bool false) s) : wpAny (model prog w) A (compareOp .Is (.str p t) (.str q u)) Q E s := by
  show wpAny _ _ (isSame (.str p t) (.str q u) >>= fun b => (pure (Value.bool b) : Sem Value)) _ _ _
  refine wpAny_bind (wpAny_of_eq (isSame_str_other p q t u (by simp [ht, hu]) (by simp [htu]) (by simp [hpq])) ?_)
  exact wpAny_pure h
end
/-- texts, all unlike, each a thing of its own -/
theorem ranked_strs {w : World} {b : Heap} (zs : List (Str × Tok)) (S : Strict strLt zs) (h1 : (zs.map (·.1)).Nodup) (h2 : (zs.map (·.2)).Nodup) (h3 : ∀ z ∈ zs, z.2 ≠ 0) (d : Str × Tok) :
    Ranked w b (zs.map fun z => Value.str z.1 z.2) (fun i => rk strLt zs (zs.getD i d)) := by
  have nd := nodup_of_key h1
  have hg : ∀ i, i < zs.length → (zs.map fun z => Value.str z.1 z.2).getD i .none = .str (zs.getD i d).1 (zs.getD i d).2 := fun i hi => by
    rw [List.getD, List.getD, List.getElem?_map, List.getElem?_eq_getElem hi]; rfl
  refine ⟨fun i hi => ?_, fun i j hi hj e => ?_, ⟨.type "str", rfl, fun v hv h _ => ?_, fun i j hi hj hij A E s Q _ _ _ h => ?_⟩, fun i j hi hj => ?_, fun i j hi hj A E s Q _ _ _ h => ?_⟩
  · rw [List.length_map] at hi ⊢
    exact S.below (at_mem hi)
  · rw [List.length_map] at hi hj
    exact Classical.byContradiction fun hij => S.inj (at_mem hi) (at_mem hj) e (at_ne nd hi hj hij)
  · obtain ⟨z, _, rfl⟩ := List.mem_map.mp hv
    exact Looks.of_pure rfl
  · rw [List.length_map] at hi hj
    rw [hg i hi, hg j hj]
    rw [S.iff (at_mem hi) (at_mem hj) (at_ne nd hi hj hij)] at h
    exact oneLt_str h
  · rw [List.length_map] at hi hj
    rw [hg i hi, hg j hj]
    have mi := at_mem (d := d) hi
    have mj := at_mem (d := d) hj
    by_cases hij : i = j
    · subst hij
      rw [decide_eq_true rfl]
      exact ⟨rfl, rfl, true, fun _ => rfl, fun _ _ _ h => is_str_self (h3 _ mi) h, fun h => by cases h⟩
    · rw [decide_eq_false hij]
      have hne := at_ne (d := d) nd hi hj hij
      have p1 := nodup_key h1 mi mj hne
      have p2 := nodup_key h2 mi mj hne
      refine ⟨rfl, rfl, false, fun h => (by cases h), fun _ _ _ h => is_str_other (h3 _ mi) (h3 _ mj) p2 p1 h, fun _ _ _ _ _ _ _ _ h => eq_str ?_⟩
      rw [show ((zs.getD i d).1 == (zs.getD j d).1) = false by simpa using p1]
      exact h
  · rw [List.length_map] at hi hj
    rw [hg i hi, hg j hj]
    refine eqBool_str ?_
    by_cases hij : i = j
    · subst hij
      rw [decide_eq_true rfl] at h
      rw [beq_self_eq_true]
      exact h
    · rw [decide_eq_false hij] at h
      have p1 := nodup_key h1 (at_mem (d := d) hi) (at_mem (d := d) hj) (at_ne nd hi hj hij)
      rw [show ((zs.getD i d).1 == (zs.getD j d).1) = false by simpa using p1]
      exact h
theorem strict_strs {zs : List (Str × Tok)} (h1 : (zs.map (·.1)).Nodup) : Strict strLt zs := ⟨fun x _ => decide_eq_false (List.lt_irrefl _), fun x _ y _ z _ a b => decide_eq_true (List.lt_trans (of_decide_eq_true a) (of_decide_eq_true b)), fun x hx y hy hxy => by
  have hne := nodup_key h1 hx hy hxy
  rcases Nat.lt_or_ge 0 1 with _ | h
  · by_cases a : x.1.cps.toList < y.1.cps.toList
    · exact .inl (decide_eq_true a)
    · by_cases b : y.1.cps.toList < x.1.cps.toList
      · exact .inr (decide_eq_true b)
      · have e := List.le_antisymm (List.not_lt.mp b) (List.not_lt.mp a)
        exact absurd (by cases hx1 : x.1; cases hy1 : y.1; rw [hx1, hy1] at e; simpa using e) hne
  · exact absurd h (by decide)⟩
end Mine
end

-- RP
section
open PySem PySem.W PySem.Calls PyProof.Rows PySem.SeqAt
set_option maxRecDepth 100000
namespace Mine
theorem entry_pis : entryFor table "proto.is" = some Builtin.«proto.is» := entryFor_of_fast (by kernel_rfl)
section
variable {prog : Program} {w : World} {A : Around} {E : Value → Shared → Prop} {s : Shared} {Q : Value → Shared → Prop}
theorem pis {a b : Value} {c : Bool} {Q' : Value → Shared → Prop} (hI : ∀ {A : Around} {E : Value → Shared → Prop} {Q : Bool → Shared → Prop}, Q c s → wpAny (model prog w) A (isSame a b) Q E s) (h : Q' (.bool c) s) :
    wpAny (model prog w) A (runValue (.builtin "proto.is" ⟨[a, b], []⟩)) Q' E s := by
  refine wpAny_runValue (codeAny_builtin entry_pis ?_)
  rw [Around.under_plainId (by decide +kernel) _]
  show wpAny _ _ ((isSame a b) >>= fun v => ret (.bool v)) _ _ _
  exact wpAny_bind (hI (wpAny_pure h))
theorem same_int_small {p : Int} {t u : Tok} {Q : Bool → Shared → Prop} (hs : smallInt p = true) (ht : t ≠ 0) (hu : u ≠ 0) (h : Q true s) : wpAny (model prog w) A (isSame (.int p t) (.int p u)) Q E s := by
  have h0 : (t == 0 || u == 0) = false := by simp [ht, hu]
  unfold isSame
  dsimp only
  rw [if_pos (by simp [hs])]
  unfold isSame.cachedInt
  rw [h0]
  exact wpAny_bind (wpAny_rule (wpAny_pure h))
theorem same_int_other {p q : Int} {t u : Tok} {Q : Bool → Shared → Prop} (ht : t ≠ 0) (hu : u ≠ 0) (htu : t ≠ u) (hpq : p ≠ q) (h : Q false s) : wpAny (model prog w) A (isSame (.int p t) (.int q u)) Q E s := by
  have h0 : (t == 0 || u == 0) = false := by simp [ht, hu]
  have h1 : (p == q) = false := by simp [hpq]
  have h2 : (t == u) = false := by simp [htu]
  unfold isSame
  dsimp only
  rw [h1]
  simp only [Bool.false_and, Bool.false_eq_true, if_false]
  unfold isSame.created
  rw [h0, h2]
  simp only [Bool.false_eq_true, if_false, Bool.not_false, if_true]
  exact wpAny_pure h
theorem is_ref_self {x : Addr} (h : Q (.bool true) s) : wpAny (model prog w) A (compareOp .Is (.ref x) (.ref x)) Q E s := by
  show wpAny _ _ (isSame (.ref x) (.ref x) >>= fun b => (pure (Value.bool b) : Sem Value)) _ _ _
  exact wpAny_bind (wpAny_isSame_ref_self (wpAny_pure h))
theorem is_pair_other {x y : Addr} {p1 p2 q1 q2 : Int} {t1 t2 u1 u2 : Tok} (hxy : x ≠ y) (hx : s.heap.get? x = some (pairObj (.int p1 t1) (.int p2 t2))) (hy : s.heap.get? y = some (pairObj (.int q1 u1) (.int q2 u2)))
    (h1 : t1 ≠ 0) (h2 : t2 ≠ 0) (h3 : u1 ≠ 0) (h4 : u2 ≠ 0) (h5 : t1 ≠ u1) (h6 : t2 ≠ u2) (h7 : p2 ≠ q2) (h8 : smallInt p1 = true) (hu : A.units + 10 < cLine) (h : Q (.bool false) s) :
    wpAny (model prog w) A (compareOp .Is (.ref x) (.ref y)) Q E s := by
  have hb : (x == y) = false := by simp [hxy]
  show wpAny _ _ (isSame (.ref x) (.ref y) >>= fun b => (pure (Value.bool b) : Sem Value)) _ _ _
  refine wpAny_bind ?_
  unfold isSame
  dsimp only
  rw [hb, if_neg Bool.false_ne_true]
  refine wpAny_bind (wpAny_load hx ?_)
  refine wpAny_bind (wpAny_load hy ?_)
  show wpAny _ _ (sameTuple x y #[.int p1 t1, .int p2 t2] #[.int q1 u1, .int q2 u2]) _ _ _
  unfold sameTuple
  refine wpAny_bind (wpAny_askSetting ?_)
  refine wpAny_ite_split (fun _ => wpAny_pure (wpAny_pure h)) fun _ => ?_
  refine wpAny_ite_split (fun _ => wpAny_pure (wpAny_pure h)) fun _ => ?_
  have items : ∀ {Q' : Bool → Shared → Prop}, Q' false s → wpAny (model prog w) A (sameItems #[.int p1 t1, .int p2 t2] #[.int q1 u1, .int q2 u2]) Q' E s := by
    intro Q' h
    unfold sameItems
    rw [if_neg (by simp)]
    simp only [List.zip_cons_cons, List.zip_nil_left, List.forIn_cons, List.forIn_nil]
    by_cases e : p1 = q1
    · subst e
      refine wpAny_bind (wpAny_bind (wpAny_bind (pis (c := true) (fun h => same_int_small h8 h1 h3 h) ?_)))
      dsimp only
      refine wpAny_bind (wpAny_askSetting ?_)
      refine wpAny_ite_split (fun _ => wpAny_pure (wpAny_pure (wpAny_pure h))) fun _ => ?_
      refine wpAny_bind (wpAny_of_eq (a := true) rfl ?_)
      rw [if_neg (by decide)]
      refine wpAny_pure ?_
      dsimp only
      refine wpAny_bind (wpAny_bind (pis (c := false) (fun h => same_int_other h2 h4 h6 h7 h) ?_))
      exact wpAny_pure (wpAny_pure (wpAny_pure h))
    · refine wpAny_bind (wpAny_bind (wpAny_bind (pis (c := false) (fun h => same_int_other h1 h3 h5 e h) ?_)))
      exact wpAny_pure (wpAny_pure (wpAny_pure h))
  refine wpAny_bind (wpAny_holding (items ?_))
  exact wpAny_pure (wpAny_pure h)
theorem eq_pairs {x y : Addr} {p1 p2 q1 q2 : Int} {t1 t2 u1 u2 : Tok} (hx : s.heap.get? x = some (pairObj (.int p1 t1) (.int p2 t2))) (hy : s.heap.get? y = some (pairObj (.int q1 u1) (.int q2 u2))) (hu : A.units < cLine)
    (h : Q (.bool ((p1 == q1) && (p2 == q2))) s) : wpAny (model prog w) A (compareOp .Eq (.ref x) (.ref y)) Q E s := by
  refine eq_tupleAt (e := fun j => if j = 0 then p1 == q1 else p2 == q2) ⟨_, hx, rfl, 0, rfl⟩ ⟨_, hy, rfl, 0, rfl⟩ hu (fun j h1 h2 => ?_) ?_
  · match j, h1, h2 with
    | 0, _, _ => exact EqAt.int_int _ _ _ _
    | 1, _, _ => exact EqAt.int_int _ _ _ _
  · have e : ((List.range (min 2 2)).all (fun j => if j = 0 then p1 == q1 else p2 == q2) && (2 : Nat) == 2) = ((p1 == q1) && (p2 == q2)) := by
      simp [List.range, List.range.loop]
    show Q (.bool ((List.range (min 2 2)).all (fun j => if j = 0 then p1 == q1 else p2 == q2) && (2 : Nat) == 2)) s
    rw [e]; exact h
end
end Mine
end

section
open PySem PySem.W PySem.Calls PyProof.Rows Mine
local macro_rules | `(tactic| walk_at "exec For Name Call cons nil") => `(tactic| refine hold ?_)
local macro_rules | `(tactic| walk_at "exec For Name Name cons nil") => `(tactic| refine hold ?_)
local macro_rules | `(tactic| walk_at "exec For Name List cons nil") => `(tactic| refine hold ?_)

-- CO
section
open PySem PySem.W PySem.Calls PyProof.Rows
set_option maxRecDepth 100000
set_option exponentiation.threshold 3000
namespace Mine
theorem isQ_start {n : Nat} (h2 : 2 ≤ n) (h66 : n ≤ 66) : IsQ (Float64.ofFrac (decide ((n : Int) - 1 < 0) != decide ((-2 : Int) < 0)) ((n : Int) - 1).natAbs (-2 : Int).natAbs) (-2 * ((n : Int) - 1)) := by
  have e1 : decide ((n : Int) - 1 < 0) = false := decide_eq_false (by lia)
  rw [e1]
  refine isQ_right (Float64.ofFrac_right (W := ((n : Int) - 1).natAbs * 2 ^ 1074) (D := 2) (by decide) rfl (by decide)) (by decide) ?_ (.inr (decide_eq_true (by lia)).symm) (by lia)
  have e2 : (-2 * ((n : Int) - 1)).natAbs = 2 * ((n : Int) - 1).natAbs := by lia
  rw [e2, show (1074 : Nat) = 1072 + 2 from rfl, Nat.pow_add]
  generalize (2 : Nat) ^ 1072 = K
  generalize ((n : Int) - 1).natAbs = a
  show a * (K * 4) = 2 * (2 * a * K)
  grind
theorem sm_sum {f : Nat → Int} {n : Nat} (h66 : n ≤ 66) (h : ∀ j, j < n → (f j).natAbs ≤ 5000) : ∀ j, j ≤ n → (sumN j f).natAbs ≤ j * 5000
  | 0, _ => by simp [sumN]
  | j + 1, hj => by
    have a := sm_sum h66 h j (Nat.le_of_succ_le hj)
    show (sumN j f + f j).natAbs ≤ _
    rw [Nat.succ_mul]
    exact Nat.le_trans (Int.natAbs_add_le _ _) (Nat.add_le_add a (h j hj))
theorem mid_le {a b n : Nat} (ha : a < n) (hb : b < n) (h66 : n ≤ 66) : ((2 * (a : Int) - (n - 1)) * (2 * (b : Int) - (n - 1))).natAbs ≤ 5000 := by
  rw [Int.natAbs_mul]
  calc _ ≤ 65 * 65 := Nat.mul_le_mul (by lia) (by lia)
    _ ≤ _ := by decide
/-- the sum of the products of two ranks' lists, in a frame -/
theorem sumprod_ranks {w : World} {A : Around} {E : Value → Shared → Prop} {s : Shared} {Q : Value → Shared → Prop} {h₀ : Heap} {L : Addr} {m : Str → Option Value} {news : List (Addr × Obj)} {a b : Addr} {xs ys : List Value} {n ca cb : Nat} {ρ σ : Nat → Nat} (hA : A.handled = none) (F : Fr h₀ L s.heap m) (N : News h₀ L s.heap news)
    (ma : (a, listOf xs.toArray ca) ∈ news) (mb : (b, listOf ys.toArray cb) ∈ news) (hx : xs.length = n) (hy : ys.length = n) (h0 : 0 < n) (h66 : n ≤ 66) (bx : ∀ j, j < n → ρ j < n) (by' : ∀ j, j < n → σ j < n)
    (nx : ∀ j, j < n → ∃ x t, xs[j]? = some (.float x t) ∧ IsQ x (2 * (2 * (ρ j : Int) - (n - 1)))) (ny : ∀ j, j < n → ∃ x t, ys[j]? = some (.float x t) ∧ IsQ x (2 * (2 * (σ j : Int) - (n - 1))))
    (hQ : ∀ h' tk' r tr, Fr h₀ L h' m → News h₀ L h' news → s.toks ≤ tk' → IsQ r (SP n ρ σ) → Q (.float r tr) { s with heap := h', toks := tk' }) :
    wpAny (model PG w) A (call (.builtin "math.sumprod") [.ref a, .ref b]) Q E s := by
  have hm : ∀ j, j < n → ((2 * (ρ j : Int) - (n - 1)) * (2 * (σ j : Int) - (n - 1))).natAbs ≤ 5000 := fun j hj => mid_le (bx j hj) (by' j hj) h66
  refine sumprod_frame (f := fun j => (2 * (ρ j : Int) - (n - 1)) * (2 * (σ j : Int) - (n - 1))) hA F N (src_list (N.isList ma)) (src_list (N.isList mb)) hx hy h0 nx ny (fun j _ => by grind) (fun j hj => ?_) (fun j hj => ?_) hQ
  · have := hm j hj
    unfold Sm
    lia
  · have := sm_sum h66 hm j hj
    unfold Sm
    lia
theorem q_of {x : UInt64} {a n m : Nat} (h : IsQ x (4 * (a : Int) - 2 * ((m : Int) - 1))) (e : m = n) : IsQ x (2 * (2 * (a : Int) - (n - 1))) := by
  subst e
  rwa [show 2 * (2 * (a : Int) - (m - 1)) = 4 * (a : Int) - 2 * ((m : Int) - 1) by lia]
theorem nom (p : Option Value → List (Addr × Obj) → Prop) (h : ∀ r V', p r V' → ∃ v, r = some v) : ∀ V', ¬ p none V' := fun V' q => by
  obtain ⟨v, e⟩ := h _ _ q
  cases e
section
variable {w : World} {base : Heap}
set_option maxHeartbeats 8000000 in
theorem corr_t {lx ly : Addr} {vx vy : List Value} {cx cy n N : Nat} {W : Int} {ρ σ : Nat → Nat} {tm : Tok} (Rx : Ranked w base vx ρ) (Ry : Ranked w base vy σ) (hxn : vx.length = n) (hyn : vy.length = n) (h2 : 2 ≤ n) (h66 : n ≤ 66) (hne : @Ne Nat lx ly)
    (sxx : SP n ρ ρ = 2 * N) (syy : SP n σ σ = 2 * N) (sxy : SP n ρ σ = 2 * W) (hN : 0 < N) (hNb : N ≤ 2 ^ 20) :
    DoesA w 60 base 291 ⟨[.ref lx, .ref ly], [("method", .str "ranked" tm)]⟩ [(lx, listOf vx.toArray cx), (ly, listOf vy.toArray cy)]
      (fun r V' => ∃ (x : UInt64) (t : Tok) (s : Bool), r = some (.float x t) ∧ (W = 0 ∨ s = decide (W < 0)) ∧ Float64.Right x s (W.natAbs * 2 ^ 1074) N ∧ V' = [(lx, listOf vx.toArray cx), (ly, listOf vy.toArray cy)]) := by
  intro p loose mean mg mb dp un gd outer g s R S V hd hu hq he
  obtain ⟨B, X, T, XB, TB, KD⟩ := S
  k_lift B
  revert X; unfold PG; k_fill; intro X
  (refine' enterC ?zSz ?zXz ?zTz ?zk6z ?zk7z ?zk8z ?zk9z ?zkBz ?zkDz ?_ ?zc2z ?zc3z ?zc4z; (case zSz => assumption); (case zXz => assumption); (case zTz => assumption); (case zk6z => k_is); (case zk7z => k_is); (case zk8z => k_room); (case zk9z => first | exact BindsTo.of_eq rfl | exact binds_K (by k_in) rfl (by k_is) rfl rfl rfl | (refine' kp_binds ?zkxz ?zkez; (case zkxz => exact Frag.In.keeps (by assumption) (fun b o e => Sits.keep (by assumption) b o e)); (case zkez => exact fun _ => rfl))); (case zkBz => exact rfl); (case zkDz => decide +kernel); (case zc2z => exact rfl); (case zc3z => exact rfl); (case zc4z => exact rfl); k_whole; intro L' h' tk' cells' F' N' Y' l1; (try k_lt l1); k_cells Y'; (try simp only [List.cons_append, List.nil_append] at N'); (try dsimp only); (try k_fold))
  (repeat' (first | (k_unfold; (try dsimp only)) | (k_end; kc_close) | (with_reducible (with_reducible refine ne_self ?_)) | (with_reducible ((with_reducible show wpAny _ _ (call (Value.builtin "len") _ _) _ _ _); (k_here; (with_reducible show wpAny _ _ (call (Value.builtin "len") [Value.ref _]) _ _ _); k_dflt (refine' len_made ?zNz ?zmz ?znz ?zhz ?_; (case zNz => k_asm); (case zmz => k_mem); (case znz => first | assumption | exact rfl); (case zhz => assumption)); (intro t' tk' tl'; (try k_sweep))))) | (with_reducible (((first | (with_reducible show wpAny _ _ (call (Value.ref 278) _ _) _ _ _) | (with_reducible show wpAny _ _ (call (Value.ref 285) _ _) _ _ _) | (with_reducible show wpAny _ _ (call (Value.ref 291) _ _) _ _ _) | (with_reducible show wpAny _ _ (call (Value.ref 298) _ _) _ _ _) | (with_reducible show wpAny _ _ (call (Value.ref 305) _ _) _ _ _) | (with_reducible show wpAny _ _ (call (Value.ref 312) _ _) _ _ _) | (with_reducible show wpAny _ _ (call (Value.ref 317) _ _) _ _ _)); refine hold ?_))) | (with_reducible ((k_here; (try k_gentoks); (with_reducible refine wpAny_execs_cons ?_); (try dsimp only); (try k_fold)))) | walk1 | (dsimp only; walk1) | (leave1; (try dsimp only))))
  have hst := isQ_start h2 h66
  refine ⟨?_⟩
  refine' use_doesE (V := [(lx, listOf vx.toArray cx)]) (W := [(ly, listOf vy.toArray cy)]) (rank_t (c := cx) Rx (by lia) (by lia) (by rw [hxn]; exact hst)) ?B ?F ?X ?N ?T ?XB ?TB ?D ?A ?hf ?ck ?hV ?hW ?hN ?hd ?hu ?hP0 ?_
  case F => k_asm
  case B => assumption
  case X => assumption
  case N => k_asm
  case T => assumption
  case XB => assumption
  case TB => assumption
  case D => assumption
  case A => exact rfl
  case hf => exact rfl
  case ck => exact rfl
  case hV => kcj_all
  case hW => kcj_all
  case hN => exact fun q hq r hr => by rw [List.mem_singleton.mp hq, List.mem_singleton.mp hr]; exact hne.symm
  case hd => k_room
  case hu => k_units
  case hP0 => exact fun V' ⟨_, _, _, h, _⟩ => by cases h
  intro h₁ h₂ tk₁ v V' hP tl T₂ F' N' nW B' X' T' D'
  obtain ⟨rx, xs, cx', hv, hV', hxs, hxq⟩ := hP
  cases hv
  subst hV'
  dsimp only [List.nil_append, List.cons_append] at N'
  (repeat' (first | (k_unfold; (try dsimp only)) | (k_end; kc_close) | (with_reducible (((first | (with_reducible show wpAny _ _ (call (Value.ref 278) _ _) _ _ _) | (with_reducible show wpAny _ _ (call (Value.ref 285) _ _) _ _ _) | (with_reducible show wpAny _ _ (call (Value.ref 291) _ _) _ _ _) | (with_reducible show wpAny _ _ (call (Value.ref 298) _ _) _ _ _) | (with_reducible show wpAny _ _ (call (Value.ref 305) _ _) _ _ _) | (with_reducible show wpAny _ _ (call (Value.ref 312) _ _) _ _ _) | (with_reducible show wpAny _ _ (call (Value.ref 317) _ _) _ _ _)); refine hold ?_))) | (with_reducible ((k_here; (try k_gentoks); (with_reducible refine wpAny_execs_cons ?_); (try dsimp only); (try k_fold)))) | walk1 | (dsimp only; walk1) | (leave1; (try dsimp only))))
  refine ⟨?_⟩
  refine' use_doesE (V := [(ly, listOf vy.toArray cy)]) (W := [(rx, listOf xs.toArray cx'), (lx, listOf vx.toArray cx)]) (rank_t (c := cy) Ry (by lia) (by lia) (by rw [hyn]; exact hst)) ?B2 ?F2 ?X2 ?N2 ?T2 ?XB2 ?TB2 ?D2 ?A2 ?hf2 ?ck2 ?hV2 ?hW2 ?hN2 ?hd2 ?hu2 ?hP02 ?_
  case F2 => k_asm
  case B2 => assumption
  case X2 => assumption
  case N2 => k_asm
  case T2 => assumption
  case XB2 => assumption
  case TB2 => assumption
  case D2 => assumption
  case A2 => exact rfl
  case hf2 => exact rfl
  case ck2 => exact rfl
  case hV2 => kcj_all
  case hW2 => kcj_all
  case hN2 =>
    intro q hq r hr
    rw [List.mem_singleton.mp hr]
    exact (nW _ (.head _) q hq).symm
  case hd2 => k_room
  case hu2 => k_units
  case hP02 => exact fun V' ⟨_, _, _, h, _⟩ => by cases h
  clear B' X' T' D'
  intro h₃ h₄ tk₂ v V' hP tl2 T₃ F' N' nW2 B' X' T' D'
  obtain ⟨ry, ys, cy', hv, hV', hys, hyq⟩ := hP
  cases hv
  subst hV'
  dsimp only [List.nil_append, List.cons_append] at N'
  have qx : ∀ j, j < n → ∃ x t, xs[j]? = some (.float x t) ∧ IsQ x (2 * (2 * (ρ j : Int) - (n - 1))) := fun j hj => by
    obtain ⟨x, t, e, q⟩ := hxq j (by lia)
    exact ⟨x, t, e, q_of q hxn⟩
  have qy : ∀ j, j < n → ∃ x t, ys[j]? = some (.float x t) ∧ IsQ x (2 * (2 * (σ j : Int) - (n - 1))) := fun j hj => by
    obtain ⟨x, t, e, q⟩ := hyq j (by lia)
    exact ⟨x, t, e, q_of q hyn⟩
  have lx' : xs.length = n := by lia
  have ly' : ys.length = n := by lia
  have bx : ∀ j, j < n → ρ j < n := fun j hj => by have := Rx.below j (by lia); lia
  have by' : ∀ j, j < n → σ j < n := fun j hj => by have := Ry.below j (by lia); lia
  (repeat' (first | (k_unfold; (try dsimp only)) | (k_end; kc_close) | (with_reducible ((k_here; (try k_gentoks); (with_reducible refine wpAny_execs_cons ?_); (try dsimp only); (try k_fold)))) | walk1 | (dsimp only; walk1) | (leave1; (try dsimp only))))
  refine' sumprod_ranks (ρ := ρ) (σ := σ) rfl (by k_asm) (by k_asm) ?ma0 ?mb0 lx' ly' (by lia) h66 bx by' qx qy ?_
  case ma0 => k_mem
  case mb0 => k_mem
  intro h50 tk50 r0 t0 F' N' tl50 q0
  (repeat' (first | (k_unfold; (try dsimp only)) | (k_end; kc_close) | (with_reducible ((k_here; (try k_gentoks); (with_reducible refine wpAny_execs_cons ?_); (try dsimp only); (try k_fold)))) | walk1 | (dsimp only; walk1) | (leave1; (try dsimp only))))
  refine' sumprod_ranks (ρ := ρ) (σ := ρ) rfl (by k_asm) (by k_asm) ?ma1 ?mb1 lx' lx' (by lia) h66 bx bx qx qx ?_
  case ma1 => k_mem
  case mb1 => k_mem
  intro h51 tk51 r1 t1 F' N' tl51 q1
  (repeat' (first | (k_unfold; (try dsimp only)) | (k_end; kc_close) | (with_reducible ((k_here; (try k_gentoks); (with_reducible refine wpAny_execs_cons ?_); (try dsimp only); (try k_fold)))) | walk1 | (dsimp only; walk1) | (leave1; (try dsimp only))))
  refine' sumprod_ranks (ρ := σ) (σ := σ) rfl (by k_asm) (by k_asm) ?ma2 ?mb2 ly' ly' (by lia) h66 by' by' qy qy ?_
  case ma2 => k_mem
  case mb2 => k_mem
  intro h52 tk52 r2 t2 F' N' tl52 q2
  (repeat' (first | (k_unfold; (try dsimp only)) | (k_end; kc_close) | (with_reducible ((k_here; (try k_gentoks); (with_reducible refine wpAny_execs_cons ?_); (try dsimp only); (try k_fold)))) | walk1 | (dsimp only; walk1) | (leave1; (try dsimp only))))
  rw [sxx, show (2 * (N : Int)) = ((2 * N : Nat) : Int) by push_cast; rfl] at q1
  rw [syy, show (2 * (N : Int)) = ((2 * N : Nat) : Int) by push_cast; rfl] at q2
  rw [sxy] at q0
  refine wpAny_Try_except ?_
  (repeat' (first | (k_unfold; (try dsimp only)) | (k_end; kc_close) | (with_reducible (((first | (with_reducible show wpAny _ _ (call (Value.ref 278) _ _) _ _ _) | (with_reducible show wpAny _ _ (call (Value.ref 285) _ _) _ _ _) | (with_reducible show wpAny _ _ (call (Value.ref 291) _ _) _ _ _) | (with_reducible show wpAny _ _ (call (Value.ref 298) _ _) _ _ _) | (with_reducible show wpAny _ _ (call (Value.ref 305) _ _) _ _ _) | (with_reducible show wpAny _ _ (call (Value.ref 312) _ _) _ _ _) | (with_reducible show wpAny _ _ (call (Value.ref 317) _ _) _ _ _)); refine hold ?_))) | (with_reducible ((k_here; (try k_gentoks); (with_reducible refine wpAny_execs_cons ?_); (try dsimp only); (try k_fold)))) | walk1 | (dsimp only; walk1) | (leave1; (try dsimp only))))
  refine ⟨?_⟩
  refine' use_doesE (V := []) (W := [(ry, listOf ys.toArray cy'), (ly, listOf vy.toArray cy), (rx, listOf xs.toArray cx'), (lx, listOf vx.toArray cx)]) (sqrt_t q1 q2 hN hNb) ?B3 ?F3 ?X3 ?N3 ?T3 ?XB3 ?TB3 ?D3 ?A3 ?hf3 ?ck3 ?hV3 ?hW3 ?hN3 ?hd3 ?hu3 ?hP03 ?_
  case F3 => k_asm
  case B3 => assumption
  case X3 => assumption
  case N3 => k_asm
  case T3 => assumption
  case XB3 => assumption
  case TB3 => assumption
  case D3 => assumption
  case A3 => exact rfl
  case hf3 => exact rfl
  case ck3 => exact rfl
  case hV3 => kcj_all
  case hW3 => kcj_all
  case hN3 => exact fun _ _ _ h => nomatch h
  case hd3 => k_room
  case hu3 => k_units
  case hP03 => exact fun V' ⟨_, _, h, _⟩ => by cases h
  clear B' X' T' D'
  intro h₆ h₇ tk₃ v V' hP tl3 T₄ F' N' nW3 B' X' T' D'
  obtain ⟨sq, ts, hv, qs, hV'⟩ := hP
  cases hv
  subst hV'
  dsimp only [List.nil_append, List.cons_append] at N'
  (repeat' (first | (k_unfold; (try dsimp only)) | (k_end; kc_close) | (with_reducible ((k_here; refine div_q rfl (by assumption) (by lia) ?_))) | walk1 | (dsimp only; walk1) | (leave1; (try dsimp only))))
  obtain ⟨sg, hs1, hs2⟩ := right_div q0 qs hN
  rename News _ _ _ _ => NZ
  rename Fr _ _ _ _ => FZ
  refine hq h₆ _ _ _ _ ⟨_, _, sg, rfl, hs1, hs2, rfl⟩ (T₂.trans (T₃.trans T₄)) (Sits.of_fr FZ ?_)
  exact List.forall_mem_cons.mpr ⟨NZ _ (.tail _ (.tail _ (.tail _ (.head _)))), List.forall_mem_cons.mpr ⟨NZ _ (.tail _ (.head _)), fun _ h => nomatch h⟩⟩
end
end Mine
end

-- WW
section
open PySem PySem.W PySem.Calls PyProof.Rows
set_option maxRecDepth 100000
namespace Mine
/-- `<` of the things is that of their ranks -/
def Less (w : World) (b : Heap) (vs : List Value) (ρ : Nat → Nat) : Prop := ∀ i j, i < vs.length → j < vs.length → ∀ {A : Around} {E : Value → Shared → Prop} {s : Shared} {Q : Value → Shared → Prop}, b.StaysIn s.heap → A.depth + 5 < recursionLimit → A.units + 50 < cLine →
  Q (.bool (decide (ρ i < ρ j))) s → wpAny (model PG w) A (compareOp .Lt (vs.getD i .none) (vs.getD j .none)) Q E s
abbrev rangeObj (a b c : Int) (t u v : Tok) : Obj := { cls := .type "range", dict := none, data := .fields #[.int a t, .int b u, .int c v], slots := #[] }
section
variable {w : World} {A : Around} {E : Value → Shared → Prop} {s : Shared} {h₀ : Heap} {L a : Addr} {m : Str → Option Value} {news : List (Addr × Obj)} {Q : Value → Shared → Prop}
theorem item_led {value slice : PySem.Expr} {vs : List Value} {c k : Nat} {i : Int} {u : Tok} (N : News h₀ L s.heap news) (hm : (a, listOf vs.toArray c) ∈ news) (hi : i = (k : Int)) (hk : k < vs.length) (h66 : vs.length ≤ 66) (h : Q (vs.getD k .none) s)
    (hs : subscripted slice false (.ref a) (.int i u) = operate [.ref a, .int i u] (getItem (.ref a) (.int i u)) := by with_unfolding_all rfl) : wpAny (model PG w) A (subscriptTail value slice (.ref a) (.int i u)) Q E s := by
  subst hi
  have hl : s.heap.IsList a vs.toArray := N.isList hm
  refine tail_any hl.typeIs slot_list_getitem.lookup (wpAny_getItem_list hl (by lia) (by lia) (x := vs.getD k .none) ?_ h) hs
  rw [Int.toNat_natCast]
  simp [List.getD, hk]
theorem rng_size {x n : Int} (h1 : x ≤ n) : Builtin.Range.rangeSize x n 1 = n - x := by
  unfold Builtin.Range.rangeSize
  rw [if_pos (by decide)]
  split
  · rw [Int.ediv_one]; lia
  · lia
theorem rng_small {x n : Int} (h0 : 0 ≤ x) (h1 : x ≤ n) (h66 : n ≤ 100) : Builtin.Range.small x n 1 = true := by
  have e := rng_size h1
  unfold Builtin.Range.small
  rw [e]
  simp only [Builtin.Range.rangeFitsLong, Bool.and_eq_true, decide_eq_true_eq, Bool.or_eq_true, beq_iff_eq]
  refine ⟨⟨⟨⟨⟨?_, ?_⟩, ?_, ?_⟩, ?_, ?_⟩, ?_, ?_⟩, .inr ?_⟩ <;> (try lia)
  rw [if_pos (by decide)]
  simp only [Bool.and_eq_true, decide_eq_true_eq]
  lia
theorem pyIter_rng {n : Int} {x : Int} {t u v : Tok} (F : Fr h₀ L s.heap m) (N : News h₀ L s.heap news) (hm : (a, rangeObj x n 1 t u v) ∈ news) (h0 : 0 ≤ x) (h1 : x ≤ n) (h66 : n ≤ 100)
    (h : ∀ I h', Fr h₀ L h' m → News h₀ L h' ((I, rngObj x (n - x) 1) :: news) → (∀ q ∈ news, q.1 < I) → Q (.ref I) { s with heap := h' }) : wpAny (model PG w) A (pyIter (.ref a)) Q E s := by
  have e := rng_size h1
  have hs := rng_small h0 h1 h66
  refine wpAny_pyIter_range (N _ hm).1 hs ?_
  rw [e]
  exact h _ _ (F.push _) (News.push F N _ rfl) fun q hq => Heap.lt_size (N q hq).1
theorem range1_led {n : Int} {t : Tok} (F : Fr h₀ L s.heap m) (N : News h₀ L s.heap news)
    (h : ∀ r h' tk t u v, Fr h₀ L h' m → News h₀ L h' ((r, rangeObj 0 n 1 t u v) :: news) → (∀ q ∈ news, q.1 < r) → s.toks ≤ tk → Q (.ref r) { s with heap := h', toks := tk }) : wpAny (model PG w) A (call (.type "range") [.int n t]) Q E s :=
  call_range_1 (h _ _ _ _ _ _ (F.push _) (News.push F N _ rfl) (fun q hq => Heap.lt_size (N q hq).1) (by first | exact Nat.le_refl _ | exact Nat.le_succ _ | lia))
theorem range2_led {a b : Int} {t u : Tok} (F : Fr h₀ L s.heap m) (N : News h₀ L s.heap news)
    (h : ∀ r h' tk t u v, Fr h₀ L h' m → News h₀ L h' ((r, rangeObj a b 1 t u v) :: news) → (∀ q ∈ news, q.1 < r) → s.toks ≤ tk → Q (.ref r) { s with heap := h', toks := tk }) : wpAny (model PG w) A (call (.type "range") [.int a t, .int b u]) Q E s :=
  call_range_2 (h _ _ _ _ _ _ (F.push _) (News.push F N _ rfl) (fun q hq => Heap.lt_size (N q hq).1) (by first | exact Nat.le_refl _ | exact Nat.le_succ _ | lia))
end
/-- what the two loops keep -/
structure WJ (hid : Addr) (V0 : List (Addr × Obj)) (f : Nat → Int) (i : Option Int) (k : Nat) (m : Str → Option Value) (W : List (Addr × Obj)) : Prop where
  apart : ∃ t, m "apart" = some (.int (f k) t)
  hidden : m "hidden" = some (.ref hid)
  at_ : ∀ x, i = some x → ∃ t, m "i" = some (.int x t)
  led : W = V0
theorem less_use {w : World} {b : Heap} {vs : List Value} {ρ : Nat → Nat} {i j : Nat} {A : Around} {E : Value → Shared → Prop} {s : Shared} {Q : Value → Shared → Prop} (LE : Less w b vs ρ) (hi : i < vs.length) (hj : j < vs.length) (st : b.StaysIn s.heap) (hd : A.depth + 5 < recursionLimit) (hu : A.units + 50 < cLine)
    (h : Q (.bool (decide (ρ i < ρ j))) s) : wpAny (model PG w) A (compareOp .Lt (vs.getD i .none) (vs.getD j .none)) Q E s := LE i j hi hj st hd hu h
section
variable {w : World} {base : Heap}
set_option maxHeartbeats 8000000 in
theorem wrong_t {hid : Addr} {vs : List Value} {c : Nat} {ρ : Nat → Nat} (LE : Less w base vs ρ) (h2 : 2 ≤ vs.length) (h66 : vs.length ≤ 66) :
    DoesA w 10 base 312 ⟨[.ref hid], []⟩ [(hid, listOf vs.toArray c)] (fun r V' => ∃ t, r = some (.int (wrong vs.length ρ) t) ∧ V' = [(hid, listOf vs.toArray c)]) := by
  intro p loose mean mg mb dp un gd outer g s R S V hd hu hq he
  obtain ⟨B, X, T, XB, TB, KD⟩ := S
  k_lift B
  revert X; unfold PG; k_fill; intro X
  (k_dflt (refine' enter ?zSz ?zXz ?zTz ?zk6z ?zk7z ?zk8z ?zk9z ?zkBz ?_ ?zc2z ?zc3z ?zc4z ?zc5z; (case zSz => assumption); (case zXz => assumption); (case zTz => assumption); (case zk6z => k_is); (case zk7z => k_is); (case zk8z => k_room); (case zk9z => first | exact BindsTo.of_eq rfl | exact binds_K (by k_in) rfl (by k_is) rfl rfl rfl | (refine' kp_binds ?zkxz ?zkez; (case zkxz => exact Frag.In.keeps (by assumption) (fun b o e => Sits.keep (by assumption) b o e)); (case zkez => exact fun _ => rfl))); (case zkBz => exact locs rfl); (case zc2z => exact rfl); (case zc3z => exact rfl); (case zc4z => exact rfl); (case zc5z => decide); k_whole; intro L' h' F' N'; (try dsimp only); (try k_fold)))
  (repeat' (first | (k_unfold; (try dsimp only)) | (k_end; kc_close) | (with_reducible ((k_here; (try k_gentoks); (with_reducible refine wpAny_execs_cons ?_); (try dsimp only); (try k_fold)))) | walk1 | (dsimp only; walk1) | (leave1; (try dsimp only))))
  refine ⟨wpAny_For ?_⟩
  (repeat' (first | (k_unfold; (try dsimp only)) | (k_end; kc_close) | (with_reducible ((k_here; first | ((with_reducible show wpAny _ _ (call (Value.type "range") [_]) _ _ _); k_dflt (refine' range1_led ?zFz ?zNz ?_; (case zFz => k_asm); (case zNz => k_asm)); (intro r' h' tk' t1' t2' t3' F' N' l1 tl'; (try k_lt l1); (try k_sweep))) | ((with_reducible show wpAny _ _ (call (Value.type "range") [_, _]) _ _ _); k_dflt (refine' range2_led ?zFz ?zNz ?_; (case zFz => k_asm); (case zNz => k_asm)); (intro r' h' tk' t1' t2' t3' F' N' l1 tl'; (try k_lt l1); (try k_sweep)))))) | (with_reducible ((with_reducible show wpAny _ _ (call (Value.builtin "len") _ _) _ _ _); (k_here; (with_reducible show wpAny _ _ (call (Value.builtin "len") [Value.ref _]) _ _ _); k_dflt (refine' len_made ?zNz ?zmz ?znz ?zhz ?_; (case zNz => k_asm); (case zmz => k_mem); (case znz => first | assumption | exact rfl); (case zhz => assumption)); (intro t' tk' tl'; (try k_sweep))))) | walk1 | (dsimp only; walk1) | (leave1; (try dsimp only))))
  refine' pyIter_rng (by k_asm) (by k_asm) (.head _) (by lia) (by lia) (by lia) ?_
  intro I h₁ F1 N1 l2
  refine' for_rng (hh := g) (base := base) (outer := outer) (A₀ := kAt dp un gd outer) (n := vs.length) (x := 0) (J := fun k m W _ => WJ hid [(hid, listOf vs.toArray c)] (fun k => sumN k fun i => sumN i fun j => if ρ i < ρ j then (i : Int) - j else 0) none k m W) (W := [(hid, listOf vs.toArray c)]) rfl ?turn ?fin ?hJ ?hW ?hF
  case hF => exact ⟨.refl, F1, fun q hq => N1 q (by
    rcases List.mem_cons.mp hq with rfl | hq
    · exact .head _
    · exact .tail _ (.tail _ hq)), (by assumption), (by assumption), (by assumption), (by assumption), (by assumption), (by assumption)⟩
  case hW => exact fun q hq => Nat.ne_of_lt (l2 q (.tail _ hq))
  case hJ => exact ⟨⟨_, rfl⟩, rfl, fun _ h => (by cases h), rfl⟩
  case fin =>
    intro m W h₃ s₃ hJ FF hs
    obtain ⟨⟨ta, ha⟩, hh', _, rfl⟩ := hJ
    obtain ⟨T0, F, N, B, X, T, _, _, D⟩ := FF
    rw [patch ha] at F
    refine st_elim (s := s) (s₃ := s₃) hs fun hh tt e₃ => ?_
    clear hs; subst e₃
    show wpAny _ _ (execs _ _) _ _ _
    (repeat' (first | (k_unfold; (try dsimp only)) | (k_end; kc_close) | (with_reducible ((k_here; (try k_gentoks); (with_reducible refine wpAny_execs_cons ?_); (try dsimp only); (try k_fold)))) | walk1 | (dsimp only; walk1) | (leave1; (try dsimp only))))
    exact hq _ _ _ _ _ ⟨_, rfl, rfl⟩ T0 (Sits.of_fr (by k_asm) (by assumption))
  case turn =>
    intro k m W s₃ h₃ t hk ht hJ hWn FF hs
    obtain ⟨⟨ta, ha⟩, hh', _, rfl⟩ := hJ
    obtain ⟨T0, F, N, B, X, T, _, _, D⟩ := FF
    rw [patch ha, patch hh'] at F
    refine st_elim (s := s) (s₃ := s₃) hs fun hh tt e₃ => ?_
    clear hs; subst e₃
    simp only [Int.zero_add] at N ⊢
    (repeat' (first | (k_unfold; (try dsimp only)) | (k_end; kc_close) | (with_reducible ((k_here; (try k_gentoks); (with_reducible refine wpAny_execs_cons ?_); (try dsimp only); (try k_fold)))) | walk1 | (dsimp only; walk1) | (leave1; (try dsimp only))))
    refine ⟨wpAny_For ?_⟩
    (repeat' (first | (k_unfold; (try dsimp only)) | (k_end; kc_close) | (with_reducible ((k_here; first | ((with_reducible show wpAny _ _ (call (Value.type "range") [_]) _ _ _); k_dflt (refine' range1_led ?zFz ?zNz ?_; (case zFz => k_asm); (case zNz => k_asm)); (intro r' h' tk' t1' t2' t3' F' N' l1 tl'; (try k_lt l1); (try k_sweep))) | ((with_reducible show wpAny _ _ (call (Value.type "range") [_, _]) _ _ _); k_dflt (refine' range2_led ?zFz ?zNz ?_; (case zFz => k_asm); (case zNz => k_asm)); (intro r' h' tk' t1' t2' t3' F' N' l1 tl'; (try k_lt l1); (try k_sweep)))))) | walk1 | (dsimp only; walk1) | (leave1; (try dsimp only))))
    refine' pyIter_rng (by k_asm) (by k_asm) (.head _) (by lia) (by lia) (by lia) ?_
    intro I2 h₄ F4 N4 l4
    refine' for_rng (hh := g) (base := base) (outer := outer) (A₀ := kAt dp un gd outer) (n := k) (x := 0) (J := fun j m W _ => WJ hid [(I, rngObj (((k + 1 : Nat) : Int)) ((vs.length : Int) - ((k + 1 : Nat) : Int)) 1), (hid, listOf vs.toArray c)] (fun j => (sumN k fun i => sumN i fun j => if ρ i < ρ j then (i : Int) - j else 0) + sumN j fun j => if ρ k < ρ j then (k : Int) - j else 0) (some (k : Int)) j m W) (W := [(I, rngObj (((k + 1 : Nat) : Int)) ((vs.length : Int) - ((k + 1 : Nat) : Int)) 1), (hid, listOf vs.toArray c)]) rfl ?turn2 ?fin2 ?hJ2 ?hW2 ?hF2
    case hF2 => exact ⟨by assumption, F4, fun q hq => N4 q (by
      rcases List.mem_cons.mp hq with rfl | hq
      · exact .head _
      · exact .tail _ (.tail _ hq)), (by assumption), (by assumption), (by assumption), (by assumption), (by assumption), (by assumption)⟩
    case hW2 => exact fun q hq => Nat.ne_of_lt (l4 q (.tail _ hq))
    case hJ2 => exact ⟨⟨_, by show some _ = some _; congr 2; exact (Int.add_zero _).symm⟩, rfl, fun x h => by cases h; exact ⟨_, rfl⟩, rfl⟩
    case fin2 =>
      intro m W h₃ s₃ hJ FF hs
      obtain ⟨⟨ta, ha⟩, hh', _, rfl⟩ := hJ
      obtain ⟨T0, F, N, B, X, T, _, _, D⟩ := FF
      refine st_elim (s := s) (s₃ := s₃) hs fun hh tt e₃ => ?_
      clear hs; subst e₃
      show wpAny _ _ (execs _ _) _ _ _
      k_steps
      exact ⟨⟨rfl, h₃, _, _, ⟨⟨_, ha⟩, hh', fun _ h => (by cases h), rfl⟩, hWn, ⟨T0, F, N, B, X, T, (by assumption), (by assumption), D⟩, rfl⟩⟩
    case turn2 =>
      intro j m W s₃ h₃ t2 hk2 ht2 hJ hWn2 FF hs
      obtain ⟨⟨ta, ha⟩, hh', hi', rfl⟩ := hJ
      obtain ⟨ti, hi'⟩ := hi' _ rfl
      obtain ⟨T0, F, N, B, X, T, _, _, D⟩ := FF
      rw [patch ha, patch hh', patch hi'] at F
      refine st_elim (s := s) (s₃ := s₃) hs fun hh tt e₃ => ?_
      clear hs; subst e₃
      simp only [Int.zero_add] at N ⊢
      (repeat' (first | (k_unfold; (try dsimp only)) | (k_end; kc_close) | (with_reducible ((with_reducible show wpAny _ _ (compareOp CmpOp.Lt _ _) _ _ _); (k_here; k_dflt (refine' less_use ?zLEz ?ziz ?zjz ?zstz ?zhdz ?zhuz ?_; (case zLEz => assumption); (case ziz => lia); (case zjz => lia); (case zstz => exact stays_of (by assumption) (by k_asm)); (case zhdz => k_room); (case zhuz => k_units))))) | (with_reducible ((with_reducible show wpAny _ _ (subscriptTail _ _ (Value.ref _) (Value.int _ _)) _ _ _); (k_here; k_dflt (refine' item_led ?zNz ?zmz ?zez ?zhkz ?zh66z ?_ ?zhsz; (case zNz => k_asm); (case zmz => k_mem); (case zez => exact rfl); (case zhkz => lia); (case zh66z => lia); (case zhsz => with_unfolding_all rfl))))) | (with_reducible ((k_here; (try k_gentoks); (with_reducible refine wpAny_execs_cons ?_); (try dsimp only); (try k_fold)))) | walk1 | (dsimp only; walk1) | (leave1; (try dsimp only))))
      all_goals (rename Fr _ _ _ _ => FZ; rename News _ _ _ _ => NZ)
      · have hc : ρ k < ρ j := by first | assumption | (apply of_decide_eq_true; assumption)
        refine ⟨⟨rfl, h₃, _, _, ?_, hWn2, ⟨T0, FZ, NZ, (by assumption), (by assumption), (by assumption), (by assumption), (by assumption), (by assumption)⟩, rfl⟩⟩
        exact ⟨⟨_, by show some (Value.int _ _) = some (Value.int _ _); congr 2; show _ = _ + (_ + _); dsimp only; rw [if_pos hc, Int.add_assoc]⟩, rfl, fun x h => (by cases h; exact ⟨_, rfl⟩), rfl⟩
      · have hc : ¬ ρ k < ρ j := by first | assumption | (apply of_decide_eq_false; assumption)
        refine ⟨⟨rfl, h₃, _, _, ?_, hWn2, ⟨T0, FZ, NZ, (by assumption), (by assumption), (by assumption), (by assumption), (by assumption), (by assumption)⟩, rfl⟩⟩
        exact ⟨⟨_, by show some (Value.int _ _) = some (Value.int _ _); congr 2; show _ = _ + (_ + _); dsimp only; rw [if_neg hc, Int.add_zero]⟩, rfl, fun x h => (by cases h; exact ⟨_, rfl⟩), rfl⟩
end
end Mine
end

-- AS
section
open PySem PySem.W PySem.Calls PyProof.Rows
set_option maxRecDepth 100000
set_option exponentiation.threshold 3000
open PySem.SeqAt
namespace Mine
section
variable {w : World} {A : Around} {E : Value → Shared → Prop} {s : Shared} {Q : Value → Shared → Prop}
theorem eq_nest {a b x y q h : Addr} {xs ys : Array Value} (ha : s.heap.IsList a #[.ref x, .ref y]) (hb : s.heap.IsList b #[.ref q, .ref h]) (hx : s.heap.IsList x xs) (hq : s.heap.IsList q xs) (hy : s.heap.IsList y ys) (hh : s.heap.IsList h ys) (n1 : x ≠ q) (n2 : y ≠ h) (hu : A.units + 10 < cLine)
    (h : Q (.bool true) s) : wpAny (model PG w) A (compareOp .Eq (.ref a) (.ref b)) Q E s := by
  refine eq_listAt (e := fun _ => true) ha hb rfl (by lia) (fun j h1 h2 => ?_) h
  match j, h1, h2 with
  | 0, _, _ =>
    have r := RcAt.lists (A := A.in1) (e := fun _ => true) hx hq rfl (by show A.units + 1 < cLine; lia) (fun j _ _ => EqAt.same _)
    rw [show (List.range xs.size).all (fun _ => true) = true by simp] at r
    exact EqAt.of_refs n1 r
  | 1, _, _ =>
    have r := RcAt.lists (A := A.in1) (e := fun _ => true) hy hh rfl (by show A.units + 1 < cLine; lia) (fun j _ _ => EqAt.same _)
    rw [show (List.range ys.size).all (fun _ => true) = true by simp] at r
    exact EqAt.of_refs n2 r
theorem ne_cmp {x y : UInt64} {t u : Tok} (hc : Float64.cmp x y = some .eq) (h : Q (.bool false) s) : wpAny (model PG w) A (compareOp .NotEq (.float x t) (.float y u)) Q E s := AutoFloatOps.ne_0 (by rw [hc]; exact h)
theorem eq_cmp {x y : UInt64} {t u : Tok} (hc : Float64.cmp x y = some .eq) (h : Q (.bool true) s) : wpAny (model PG w) A (compareOp .Eq (.float x t) (.float y u)) Q E s := AutoFloatOps.eq_0 (by rw [hc]; exact h)
theorem getMethod_ratio {M : Model} {pl : Sem Bool} {x : UInt64} {t : Tok} {Q : Value × List Value → Shared → Prop} (h : Q (.builtin "float.as_integer_ratio", [.float x t]) s) : wpAny M A (getMethod (.float x t) "as_integer_ratio" pl) Q E s := by
  with_reducible exact getMethod_builtin (typeIs_float _ _ _) F.plainAttrs_float F.slot_float_as_integer_ratio F.type_float_as_integer_ratio (fun _ e => nomatch e) h
theorem call_ratio {h₀ : Heap} {L : Addr} {m : Str → Option Value} {news : List (Addr × Obj)} {x : UInt64} {t : Tok} {sg : Bool} {k : Nat} {e : Int} (hd : Float64.decode x = .fin sg k e) (F' : Fr h₀ L s.heap m) (N : News h₀ L s.heap news)
    (h : ∀ D h' tk t1 t2, Fr h₀ L h' m → News h₀ L h' ((D, { cls := .type "tuple", data := .seq #[.int (Float64.sgn sg (Float64.ratio k e).1) t1, .int ((Float64.ratio k e).2 : Int) t2] }) :: news) → (∀ q ∈ news, q.1 < D) → Q (.ref D) { s with heap := h', toks := tk }) :
    wpAny (model PG w) A (call (.builtin "float.as_integer_ratio") [.float x t]) Q E s := by
  refine wpAny_call_entry F.slot_float_as_integer_ratio (typeIs_float s x t) F.entry_float_as_integer_ratio ?_ (F.args_float_as_integer_ratio_1 _)
  unfold Builtin.«float.as_integer_ratio»
  refine wpAny_bind (wpAny_of_eq (a := (Value.float x t, x)) (by first | rfl | kernel_rfl!) ?_)
  dsimp only
  rw [hd]
  dsimp only
  refine wpAny_bind (wpAny_bind (wpAny_fresh (wpAny_pure ?_)))
  refine wpAny_bind (wpAny_bind (wpAny_fresh (wpAny_pure ?_)))
  refine wpAny_bind (wpAny_newTuple ?_ (by show 2 ≤ _; rw [sizeLine_eq]; decide))
  exact wpAny_pure ⟨_, rfl, h _ _ _ _ _ (Fr.push F' _) (News.push F' N _ rfl) fun q hq => Heap.lt_size (N q hq).1⟩
theorem mul_small {a b : Int} {t u : Tok} (hs : (-(2 ^ 64) < a ∧ a < 2 ^ 64) ∨ (-(2 ^ 64) < b ∧ b < 2 ^ 64)) (h : Q (.int (a * b) s.toks) { s with toks := s.toks + 1 }) : wpAny (model PG w) A (binaryOp .Mult (.int a t) (.int b u)) Q E s :=
  mul_int h (hs.elim (fun h => IntMulOk.of_left (intBits_le_64 h.1 h.2)) fun h => IntMulOk.of_right (intBits_le_64 h.1 h.2))
theorem ratio_den {x : UInt64} {sg : Bool} {m : Nat} {e : Int} (hd : Float64.decode x = .fin sg m e) : (Float64.ratio m e).2 ≤ 2 ^ 1074 := by
  have he := Float64.decode_ge hd
  have h3 : (Float64.ratio m e).2 = (Float64.shift m 1 e).2 / (Float64.shift m 1 e).1.gcd (Float64.shift m 1 e).2 := rfl
  rw [h3]
  refine Nat.le_trans (Nat.div_le_self _ _) ?_
  unfold Float64.shift
  split
  · exact Nat.one_le_two_pow
  · show 1 * 2 ^ (-e).toNat ≤ 2 ^ 1074
    rw [Nat.one_mul]
    exact Nat.pow_le_pow_right (by decide) (by lia)
theorem floor_told {a W : Int} {d : Nat} {t u : Tok} (hd0 : 0 < d) (hd1 : d ≤ 2 ^ 1074) (hW : Int.fdiv a (2 * (d : Int)) = W) (h : Q (.int W s.toks) { s with toks := s.toks + 1 }) : wpAny (model PG w) A (binaryOp .FloorDiv (.int a t) (.int (2 * (d : Int)) u)) Q E s := by
  refine floordiv_int (by lia) (by rw [hW]; exact h) (.inl (PyProof.noPylong_of_log2 ?_))
  have e : (2 * (d : Int)).natAbs = 2 * d := by lia
  rw [e]
  have : 2 * d < 2 ^ 1076 := by
    have : (2 : Nat) ^ 1076 = 4 * 2 ^ 1074 := by rw [show (1076 : Nat) = 1074 + 2 from rfl, Nat.pow_add, Nat.mul_comm]
    rw [this]
    generalize (2 : Nat) ^ 1074 = K at *
    lia
  exact Nat.lt_trans ((Nat.log2_lt (by lia)).mpr this) (by decide)
end
local macro_rules | `(tactic| walk_at "compareOp Eq ref ref") => `(tactic| refine hold ?_)
section
variable {w : World} {base : Heap}
set_option maxHeartbeats 8000000 in
theorem asked_t {lq lh : Addr} {qs vs : List Value} {cq ch n N : Nat} {W : Int} {ρ σ : Nat → Nat} {ts : Tok} (Rq : Ranked w base qs σ) (Rv : Ranked w base vs ρ) (hqn : qs.length = n) (hvn : vs.length = n) (h2 : 2 ≤ n) (h66 : n ≤ 66) (hne : @Ne Nat lq lh)
    (sqq : SP n σ σ = 2 * N) (svv : SP n ρ ρ = 2 * N) (sqv : SP n σ ρ = 2 * W) (hN : 0 < N) (hNb : N ≤ 2 ^ 20) (hW : W.natAbs ≤ N) :
    DoesA w 70 base 305 ⟨[.ref lq, .ref lh, .int (N : Int) ts], []⟩ [(lq, listOf qs.toArray cq), (lh, listOf vs.toArray ch)]
      (fun r V' => ∃ (t : Tok), r = some (.int W t) ∧ V' = [(lq, listOf qs.toArray cq), (lh, listOf vs.toArray ch)]) := by
  intro p loose mean mg mb dp un gd outer g s R S V hd hu hq he
  obtain ⟨B, X, T, XB, TB, KD⟩ := S
  k_lift B
  revert X; unfold PG; k_fill; intro X
  (k_dflt (refine' enter ?zSz ?zXz ?zTz ?zk6z ?zk7z ?zk8z ?zk9z ?zkBz ?_ ?zc2z ?zc3z ?zc4z ?zc5z; (case zSz => assumption); (case zXz => assumption); (case zTz => assumption); (case zk6z => k_is); (case zk7z => k_is); (case zk8z => k_room); (case zk9z => first | exact BindsTo.of_eq rfl | exact binds_K (by k_in) rfl (by k_is) rfl rfl rfl | (refine' kp_binds ?zkxz ?zkez; (case zkxz => exact Frag.In.keeps (by assumption) (fun b o e => Sits.keep (by assumption) b o e)); (case zkez => exact fun _ => rfl))); (case zkBz => exact locs rfl); (case zc2z => exact rfl); (case zc3z => exact rfl); (case zc4z => exact rfl); (case zc5z => decide); k_whole; intro L' h' F' N'; (try dsimp only); (try k_fold)))
  (repeat' (first | (k_unfold; (try dsimp only)) | (k_end; kc_close) | (with_reducible (((first | (with_reducible show wpAny _ _ (call (Value.ref 278) _ _) _ _ _) | (with_reducible show wpAny _ _ (call (Value.ref 285) _ _) _ _ _) | (with_reducible show wpAny _ _ (call (Value.ref 291) _ _) _ _ _) | (with_reducible show wpAny _ _ (call (Value.ref 298) _ _) _ _ _) | (with_reducible show wpAny _ _ (call (Value.ref 305) _ _) _ _ _) | (with_reducible show wpAny _ _ (call (Value.ref 312) _ _) _ _ _) | (with_reducible show wpAny _ _ (call (Value.ref 317) _ _) _ _ _)); refine hold ?_))) | (with_reducible ((k_here; (try k_gentoks); (with_reducible refine wpAny_execs_cons ?_); (try dsimp only); (try k_fold)))) | walk1 | (dsimp only; walk1) | (leave1; (try dsimp only))))
  refine ⟨?_⟩
  refine' use_doesE (V := [(_, _), (_, _)]) (W := [(lq, listOf qs.toArray cq), (lh, listOf vs.toArray ch)]) (corr_t Rq Rv hqn hvn h2 h66 (by lia) sqq svv sqv hN hNb) ?B1 ?F1 ?X1 ?N1 ?T1 ?XB1 ?TB1 ?D1 ?A1 ?hf1 ?ck1 ?hV1 ?hW1 ?hN1 ?hd1 ?hu1 ?hP01 ?_
  case F1 => k_asm
  case B1 => assumption
  case X1 => assumption
  case N1 => k_asm
  case T1 => assumption
  case XB1 => assumption
  case TB1 => assumption
  case D1 => assumption
  case A1 => exact rfl
  case hf1 => exact rfl
  case ck1 => exact rfl
  case hV1 => kcj_all
  case hW1 => kcj_all
  case hN1 => 
      (repeat' (first | exact List.forall_mem_nil _ | refine List.forall_mem_cons.mpr ⟨?_, ?_⟩)) <;> (dsimp only; first | assumption | (apply Nat.ne_of_lt; lia) | (apply Nat.ne_of_gt; lia))
  case hd1 => k_room
  case hu1 => k_units
  case hP01 => exact fun V' ⟨_, _, _, h, _⟩ => by cases h
  clear B X T KD
  intro h₁ h₂ tk₁ v V' hP tl T₂ F' N' nW B' X' T' D'
  obtain ⟨x1, t1, s1, hv, hs1, hr1, hV'⟩ := hP
  cases hv
  subst hV'
  dsimp only [List.nil_append, List.cons_append] at N'
  (repeat' (first | (k_unfold; (try dsimp only)) | (k_end; kc_close) | (with_reducible (((first | (with_reducible show wpAny _ _ (call (Value.ref 278) _ _) _ _ _) | (with_reducible show wpAny _ _ (call (Value.ref 285) _ _) _ _ _) | (with_reducible show wpAny _ _ (call (Value.ref 291) _ _) _ _ _) | (with_reducible show wpAny _ _ (call (Value.ref 298) _ _) _ _ _) | (with_reducible show wpAny _ _ (call (Value.ref 305) _ _) _ _ _) | (with_reducible show wpAny _ _ (call (Value.ref 312) _ _) _ _ _) | (with_reducible show wpAny _ _ (call (Value.ref 317) _ _) _ _ _)); refine hold ?_))) | (with_reducible ((k_here; (try k_gentoks); (with_reducible refine wpAny_execs_cons ?_); (try dsimp only); (try k_fold)))) | walk1 | (dsimp only; walk1) | (leave1; (try dsimp only))))
  refine ⟨?_⟩
  refine' use_doesE (V := [(_, _), (_, _)]) (W := [(lq, listOf qs.toArray cq), (lh, listOf vs.toArray ch)]) (corr_t Rv Rq hvn hqn h2 h66 (by lia) svv sqq (by rw [sp_comm]; exact sqv) hN hNb) ?B2 ?F2 ?X2 ?N2 ?T2 ?XB2 ?TB2 ?D2 ?A2 ?hf2 ?ck2 ?hV2 ?hW2 ?hN2 ?hd2 ?hu2 ?hP02 ?_
  case F2 => k_asm
  case B2 => assumption
  case X2 => assumption
  case N2 => k_asm
  case T2 => assumption
  case XB2 => assumption
  case TB2 => assumption
  case D2 => assumption
  case A2 => exact rfl
  case hf2 => exact rfl
  case ck2 => exact rfl
  case hV2 => kcj_all
  case hW2 => kcj_all
  case hN2 => 
      (repeat' (first | exact List.forall_mem_nil _ | refine List.forall_mem_cons.mpr ⟨?_, ?_⟩)) <;> (dsimp only; first | assumption | (apply Nat.ne_of_lt; lia) | (apply Nat.ne_of_gt; lia))
  case hd2 => k_room
  case hu2 => k_units
  case hP02 => exact fun V' ⟨_, _, _, h, _⟩ => by cases h
  clear B' X' T' D'
  intro h₃ h₄ tk₂ v V' hP tl T₃ F' N' nW B' X' T' D'
  obtain ⟨x2, t2, s2, hv, hs2, hr2, hV'⟩ := hP
  cases hv
  subst hV'
  dsimp only [List.nil_append, List.cons_append] at N'
  have hc := right_cmp hN hW hs2 hs1 hr2 hr1
  have hc2 : Float64.cmp x1 (Float64.ofFrac (decide (W < 0) != decide ((N : Int) < 0)) W.natAbs (N : Int).natAbs) = some .eq := right_cmp hN hW hs1 (.inr rfl) hr1 (right_ofFrac W hN)
  obtain ⟨mm, ee, hdec, hd0, hfl⟩ := told_floor hN (by lia) hW hs1 hr1
  have hd1 := ratio_den hdec
  (repeat' (first | (k_unfold; (try dsimp only)) | (k_end; kc_close) | (with_reducible ((with_reducible show wpAny _ _ (binaryOp Operator.FloorDiv (Value.int _ _) (Value.int _ _)) _ _ _); (k_here; refine floor_told (by assumption) (by assumption) (by assumption) ?_))) | (with_reducible ((with_reducible show wpAny _ _ (binaryOp Operator.Mult (Value.int _ _) (Value.int _ _)) _ _ _); (k_here; refine mul_small (by first | exact .inl ⟨by decide, by decide⟩ | exact .inr ⟨by lia, by lia⟩ | exact .inl ⟨by lia, by lia⟩) ?_))) | (with_reducible ((with_reducible show wpAny _ _ (call (Value.builtin "float.as_integer_ratio") _ _) _ _ _); (k_here; refine' call_ratio ?zhdz ?zFz ?zNz ?_; (case zhdz => assumption); (case zFz => k_asm); (case zNz => k_asm); intro D' h' tk' t1' t2' F' N' l1; (try k_lt l1); (try k_sweep)))) | (with_reducible ((k_here; with_reducible refine getMethod_ratio ?_))) | (with_reducible ((k_here; refine eq_cmp (by assumption) ?_))) | (with_reducible ((k_here; refine ne_cmp (by assumption) ?_))) | (with_reducible ((k_here; (try k_gentoks); (with_reducible refine wpAny_execs_cons ?_); (try dsimp only); (try k_fold)))) | walk1 | (dsimp only; walk1) | (leave1; (try dsimp only))))
  refine ⟨?_⟩
  rename News _ _ _ _ => NZ
  rename Fr _ _ _ _ => FZ
  refine eq_nest (NZ.isList (.tail _ (.head _))) (NZ.isList (.head _)) (NZ.isList (.tail _ (.tail _ (.tail _ (.tail _ (.head _)))))) (NZ.isList (.tail _ (.tail _ (.tail _ (.tail _ (.tail _ (.head _))))))) (NZ.isList (.tail _ (.tail _ (.tail _ (.head _))))) (NZ.isList (.tail _ (.tail _ (.tail _ (.tail _ (.tail _ (.tail _ (.head _)))))))) (Nat.ne_of_gt (by lia)) (Nat.ne_of_gt (by lia)) (by k_units) ?_
  k_steps
  refine hq h₃ _ _ _ _ ⟨_, rfl, rfl⟩ (T₂.trans T₃) (Sits.of_fr FZ ?_)
  exact List.forall_mem_cons.mpr ⟨NZ _ (.tail _ (.tail _ (.tail _ (.tail _ (.tail _ (.head _)))))), List.forall_mem_cons.mpr ⟨NZ _ (.tail _ (.tail _ (.tail _ (.tail _ (.tail _ (.tail _ (.head _))))))), fun _ h => nomatch h⟩⟩
end
end Mine
end

-- RG
section
open PySem PySem.W PySem.Calls PyProof.Rows
set_option maxRecDepth 100000
namespace Mine
abbrev intV (z : Int × Tok) : Value := .int z.1 z.2
/-- the ints 0, 1, .. each a thing of its own, made between these two counts of tokens -/
structure Count (zs : List (Int × Tok)) (n : Nat) (lo hi : Nat) : Prop where
  len : zs.length = n
  val : zs.map (·.1) = (List.range n).map fun (k : Nat) => (k : Int)
  up : (zs.map (·.2)).Pairwise (· < ·)
  low : ∀ z ∈ zs, lo ≤ z.2
  high : ∀ z ∈ zs, z.2 < hi
theorem Count.push {zs : List (Int × Tok)} {k lo hi : Nat} (h : Count zs k lo hi) (hlo : lo ≤ hi) : Count (zs ++ [((k : Int), hi)]) (k + 1) lo (hi + 1) where
  len := by simp [h.len]
  val := by rw [List.map_append, h.val, List.range_succ, List.map_append]; rfl
  up := by
    rw [List.map_append, List.pairwise_append]
    refine ⟨h.up, List.pairwise_singleton .., fun a ha b hb => ?_⟩
    obtain ⟨z, hz, rfl⟩ := List.mem_map.mp ha
    rw [List.mem_singleton.mp hb]
    exact h.high z hz
  low := fun z hz => by
    rcases List.mem_append.mp hz with hz | hz
    · exact h.low z hz
    · rw [List.mem_singleton.mp hz]; exact hlo
  high := fun z hz => by
    rcases List.mem_append.mp hz with hz | hz
    · exact Nat.lt_succ_of_lt (h.high z hz)
    · rw [List.mem_singleton.mp hz]; exact Nat.lt_succ_self _
section
variable {w : World} {A : Around} {E : Value → Shared → Prop} {s : Shared} {h₀ : Heap} {L : Addr} {m : Str → Option Value} {news : List (Addr × Obj)} {Q : Value → Shared → Prop}
theorem loop_rng {S I : Addr} {res : Value} {R : Result → Shared → Prop} {n lo : Nat} (hA : A.handled = none) (hSI : S ≠ I) (h66 : n ≤ 100) :
    ∀ (j k : Nat) (s : Shared) (zs : List (Int × Tok)) (c : Nat), k + j = n → s.heap.get? I = some (rngObj (k : Int) ((n : Int) - k) 1) → s.heap.get? S = some (listOf (zs.map intV).toArray c) → Count zs k lo s.toks → lo ≤ s.toks →
      (∀ h' tk zs' c', (∀ b o, b ≠ I → b ≠ S → s.heap.get? b = some o → h'.get? b = some o) → h'.get? S = some (listOf (zs'.map intV).toArray c') → Count zs' n lo tk → s.toks ≤ tk → R (.ok (.ret res)) { s with heap := h', toks := tk }) →
      codeAny (model PG w) A (.builtin "list.extend.loop" ⟨[.ref S, .ref I, res], []⟩) R s := by
  intro j
  induction j with
  | zero =>
    intro k s zs c hk hI hS hz hl hR
    obtain rfl : k = n := by lia
    refine codeAny_builtin F.entry_extend_loop ?_
    rw [Around.under_plainId F.plain_extend_loop _]
    show wpAny _ _ (pyNext (.ref I) >>= _) _ _ s
    refine wpAny_bind (wpAny_pyNext_range_end hA hI (by lia) fun h' hx => ?_)
    refine wpAny_pure (hR h' s.toks zs c (fun b o h1 _ e => hx b o h1 e) ((hx S _ hSI hS)) hz (Nat.le_refl _))
  | succ j ih =>
    intro k s zs c hk hI hS hz hl hR
    refine codeAny_builtin F.entry_extend_loop ?_
    rw [Around.under_plainId F.plain_extend_loop _]
    show wpAny _ _ (pyNext (.ref I) >>= _) _ _ s
    refine wpAny_bind (wpAny_pyNext_range_item hI (by lia) fun h' hit hs => ?_)
    show wpAny _ _ (updateSeq S (·.push (.int (k : Int) s.toks)) >>= fun _ => again (.builtin "list.extend.loop" ⟨[.ref S, .ref I, res], []⟩)) _ _ _
    have hS' : h'.get? S = some (listOf (zs.map intV).toArray c) := (hs.2 S hSI).trans hS
    have hzl := hz.len
    refine wpAny_bind (wpAny_updateSeq hS' rfl ?_ (hz := by rw [List.size_toArray, List.length_map, sizeLine_eq]; lia) (_hz' := by rw [Array.size_push, List.size_toArray, List.length_map, sizeLine_eq]; lia))
    refine wpAny_pure ⟨plainId_quiet F.plain_extend_loop _, ?_⟩
    have hu := Heap.get?_update_self (Obj.mapSeq (·.push (Value.int (k : Int) s.toks))) hS' rfl
    obtain ⟨c', e⟩ : ∃ c', Obj.mapSeq (·.push (Value.int (k : Int) s.toks)) (listOf (zs.map intV).toArray c) = listOf ((zs.map intV).toArray.push (Value.int (k : Int) s.toks)) c' := ⟨_, rfl⟩
    have e3 : (zs.map intV).toArray.push (Value.int (k : Int) s.toks) = ((zs ++ [((k : Int), s.toks)]).map intV).toArray := by
      rw [List.push_toArray, List.map_append]
      rfl
    rw [e3] at e
    rw [e] at hu
    have sb := Heap.SameBut.update (a := S) (h := h') (f := Obj.mapSeq (·.push (Value.int (k : Int) s.toks)))
    refine ih (k + 1) { s with heap := h'.update S (Obj.mapSeq (·.push (Value.int (k : Int) s.toks))), toks := s.toks + 1 } _ c' (by lia) ?_ hu (hz.push hl) (by show lo ≤ s.toks + 1; lia) fun h'' tk zs' c'' kk hS2 hz2 ht2 => ?_
    · refine (sb.2 I (Ne.symm hSI)).trans ?_
      have e1 : (k : Int) + 1 = ((k + 1 : Nat) : Int) := by lia
      have e2 : (n : Int) - k - 1 = (n : Int) - ((k + 1 : Nat) : Int) := by lia
      rw [e1, e2] at hit
      exact hit
    · exact hR h'' tk zs' c'' (fun b o h1 h2 e => kk b o h1 h2 ((sb.2 b h2).trans ((hs.2 b h1).trans e))) hS2 hz2 (Nat.le_trans (Nat.le_succ _) ht2)

theorem list_rng {r : Addr} {n : Nat} {t u v : Tok} (hA : A.handled = none) (F' : Fr h₀ L s.heap m) (N : News h₀ L s.heap news) (hm : (r, rangeObj 0 (n : Int) 1 t u v) ∈ news) (h66 : n ≤ 66)
    (hQ : ∀ D h' tk zs c lo, Fr h₀ L h' m → News h₀ L h' ((D, listOf (zs.map intV).toArray c) :: news) → (∀ q ∈ news, q.1 < D) → s.toks < lo → lo ≤ tk → Count zs n lo tk → Q (.ref D) { s with heap := h', toks := tk }) :
    wpAny (model PG w) A (call (.type "list") [.ref r]) Q E s := by
  have hr : IsRange s.heap r 0 n 1 t u v := (N _ hm).1
  have e : Builtin.Range.rangeSize 0 n 1 = (n : Int) := (rng_size (by lia)).trans (Int.sub_zero _)
  have hsmall : Builtin.Range.small 0 (n : Int) 1 = true := rng_small (by decide) (by lia) (by lia)
  refine callType_codes (Q₁ := fun obj s₁ => obj = .ref s.heap.objs.size ∧ s₁ = { s with heap := s.heap.push { cls := .type "list", data := .seq #[] } }) F.called_list (F.typeCall_list_1 _) F.entry_list_init
    (code_list_new _ ⟨rfl, rfl⟩) fun obj s₁ h₁ => ?_
  obtain ⟨rfl, rfl⟩ := h₁
  have hS : (s.heap.push { cls := .type "list", data := .seq #[] }).get? s.heap.objs.size = some { cls := .type "list", data := .seq #[] } := Heap.get?_push_size _ rfl
  have hSr : s.heap.objs.size ≠ r := Nat.ne_of_gt (Heap.lt_size hr)
  refine ⟨⟨_, hS, rfl⟩, F.args_list_init_2 _ _, ?_⟩
  show wpAny _ _ (do let old ← Builtin.List.listItems (.ref s.heap.objs.size); Builtin.List.listUpdate (.ref s.heap.objs.size) (fun _ => #[]); letGo old.toList.reverse; Builtin.List.listExtendWith (.ref s.heap.objs.size) (.ref r) .none) _ _ _
  refine wpAny_bind ?_
  unfold Builtin.List.listItems
  refine wpAny_bind (wpAny_seqItems hS rfl (wpAny_pure ?_))
  show wpAny _ _ (updateSeq s.heap.objs.size (fun _ => #[]) >>= fun _ => letGo (#[] : Array Value).toList.reverse >>= fun _ => Builtin.List.listExtendWith (.ref s.heap.objs.size) (.ref r) .none) _ _ _
  refine wpAny_bind (wpAny_updateSeq hS rfl ?_)
  refine wpAny_bind (wpAny_letGo ?_)
  unfold Builtin.List.listExtendWith
  have hS2 := Heap.get?_update_self (Obj.mapSeq (fun _ => (#[] : Array Value))) hS rfl
  have oth : ∀ b o, s.heap.get? b = some o → ((s.heap.push { cls := .type "list", data := .seq #[] }).update s.heap.objs.size (Obj.mapSeq (fun _ => (#[] : Array Value)))).get? b = some o :=
    fun b o q => (Heap.get?_update_other _ _ (Nat.ne_of_gt (Heap.lt_size q))).trans (Heap.get?_push_of_some _ q)
  have up : (Heap.update (s.heap.push { cls := .type "list", data := .seq #[] }) s.heap.objs.size (Obj.mapSeq (fun _ => (#[] : Array Value)))).objs.size = s.heap.objs.size + 1 := by rw [Heap.size_update, Heap.size_push]
  generalize (Heap.update (s.heap.push { cls := .type "list", data := .seq #[] }) s.heap.objs.size (Obj.mapSeq (fun _ => (#[] : Array Value)))) = h1 at *
  refine wpAny_bind (wpAny_typeOf (T := "range") ⟨_, oth _ _ hr, rfl⟩ ?_)
  have q1 : Builtin.List.listSameRef (.ref s.heap.objs.size) (.ref r) = false := by simp [Builtin.List.listSameRef, hSr]
  have q2 : (Value.type "range" == Value.type "list") = false := by decide
  have q3 : (Value.type "range" == Value.type "tuple") = false := by decide
  simp only [q1, q2, q3, Bool.or_false, Bool.false_eq_true, if_false]
  refine wpAny_bind (wpAny_pyIter_range (oth _ _ hr) hsmall ?_)
  refine wpAny_bind (wpAny_holding (wpAny_hint_range (n := n) (Heap.get?_push_of_some _ (oth _ _ hr)) e (by lia) ?_))
  have hSI : s.heap.objs.size ≠ h1.objs.size := by rw [up]; exact Nat.ne_of_lt (Nat.lt_succ_self _)
  have key : ∀ (hX : Heap) (cX : Nat), hX.get? h1.objs.size = some (rngObj ((0 : Nat) : Int) ((n : Int) - ((0 : Nat) : Int)) 1) → hX.get? s.heap.objs.size = some (listOf #[] cX) → (∀ b o, b ≠ s.heap.objs.size → h1.get? b = some o → hX.get? b = some o) →
      codeAny (model PG w) A.in1 (.builtin "list.extend.loop" ⟨[.ref s.heap.objs.size, .ref h1.objs.size, .none], []⟩) (wants (fun r s₂ => r = Value.none ∧ Q (Value.ref s.heap.objs.size) s₂) E) { s with heap := hX, toks := s.toks + 1 + 1 } := by
    intro hX cX hI hSX hk
    refine loop_rng (n := n) (lo := s.toks + 1 + 1) (by exact hA) hSI (by lia) n 0 { s with heap := hX, toks := s.toks + 1 + 1 } [] cX (Nat.zero_add n) hI hSX ⟨rfl, rfl, List.Pairwise.nil, (fun _ h => nomatch h), (fun _ h => nomatch h)⟩ (Nat.le_refl _) fun h' tk zs' c' kk hS' hz ht => ?_
    have keep : ∀ b o, s.heap.get? b = some o → h'.get? b = some o := fun b o q => by
      have hb : b < s.heap.objs.size := Heap.lt_size q
      refine kk b o ?_ (Nat.ne_of_lt hb) (hk b o (Nat.ne_of_lt hb) (oth b o q))
      rw [up]
      exact Nat.ne_of_lt (Nat.lt_succ_of_lt hb)
    refine ⟨rfl, hQ _ h' tk zs' c' _ (F'.keeps keep) (fun q hq => ?_) (fun q hq => Heap.lt_size (N q hq).1) (Nat.lt_of_lt_of_le (Nat.lt_succ_self s.toks) (Nat.le_succ _)) ht hz⟩
    rcases List.mem_cons.mp hq with rfl | hq
    · obtain ⟨oL, _, _, hoL, _⟩ := F'.ns
      have hL : L < s.heap.objs.size := Heap.lt_size hoL
      refine ⟨hS', Nat.ne_of_gt hL, ?_⟩
      cases z : h₀.get? s.heap.objs.size with
      | none => rfl
      | some o => exact absurd (Nat.lt_of_lt_of_le (Heap.lt_size z) F'.above) (Nat.not_lt.mpr (Nat.le_of_lt hL))
    · exact ⟨keep _ _ (N q hq).1, (N q hq).2⟩
  have hI1 : (h1.push { cls := .type "range_iterator", data := .fields #[rawInt 0, rawInt (Builtin.Range.rangeSize 0 (n : Int) 1), rawInt 1] }).get? h1.objs.size = some (rngObj ((0 : Nat) : Int) ((n : Int) - ((0 : Nat) : Int)) 1) := by
    rw [e, Heap.get?_push_size _ rfl]
    show _ = some (rngObj 0 ((n : Int) - 0) 1)
    rw [Int.sub_zero]
  have hS3 := Heap.get?_push_of_some { cls := .type "range_iterator", data := .fields #[rawInt 0, rawInt (Builtin.Range.rangeSize 0 (n : Int) 1), rawInt 1] } hS2
  have k3 : ∀ b o, h1.get? b = some o → (h1.push { cls := .type "range_iterator", data := .fields #[rawInt 0, rawInt (Builtin.Range.rangeSize 0 (n : Int) 1), rawInt 1] }).get? b = some o := fun b o q => Heap.get?_push_of_some _ q
  generalize (h1.push { cls := .type "range_iterator", data := .fields #[rawInt 0, rawInt (Builtin.Range.rangeSize 0 (n : Int) 1), rawInt 1] }) = h2 at *
  refine wpAny_ite_split (fun _ => ?_) (fun _ => wpAny_pure ⟨plainId_quiet F.plain_extend_loop _, key h2 _ hI1 hS3 fun b o _ q => k3 b o q⟩)
  refine wpAny_bind (wpAny_rule ?_)
  refine wpAny_bind ?_
  show wpAny _ _ (updateSeq s.heap.objs.size (·.push .none) >>= fun _ => updateSeq s.heap.objs.size (·.pop)) _ _ _
  refine wpAny_bind (wpAny_updateSeq hS3 rfl ?_)
  have hS4 := Heap.get?_update_self (Obj.mapSeq (·.push Value.none)) hS3 rfl
  refine wpAny_updateSeq (hz := by seq_fits) hS4 rfl ?_
  have hS5 := Heap.get?_update_self (Obj.mapSeq (·.pop)) hS4 rfl
  refine wpAny_pure ⟨plainId_quiet F.plain_extend_loop _, key _ _ ?_ hS5 (fun b o hb q => ?_)⟩
  · exact (Heap.get?_update_other _ _ hSI).trans ((Heap.get?_update_other _ _ hSI).trans hI1)
  · exact (Heap.get?_update_other _ _ (Ne.symm hb)).trans ((Heap.get?_update_other _ _ (Ne.symm hb)).trans (k3 b o q))
end
end Mine
end

-- RQ
section
open PySem PySem.W PySem.Calls PyProof.Rows
set_option maxRecDepth 100000
namespace Mine
theorem perm_eq {n : Nat} {ρ τ : Nat → Nat} (P : Perm n ρ) (T : Perm n τ) (h : ∀ i j, i < n → j < n → (ρ i < ρ j ↔ τ i < τ j)) (i : Nat) (hi : i < n) : ρ i = τ i := by
  have a := P.count i hi
  have b := T.count i hi
  have e : sumN n (fun j => if ρ j < ρ i then 1 else 0) = sumN n fun j => if τ j < τ i then 1 else 0 := sumN_congr n fun j hj => by
    have := h j i hj hi
    by_cases x : ρ j < ρ i
    · rw [if_pos x, if_pos (this.mp x)]
    · rw [if_neg x, if_neg fun y => x (this.mpr y)]
  rw [a, b] at e
  exact_mod_cast e
theorem Ranked.perm {w : World} {b : Heap} {vs : List Value} {ρ : Nat → Nat} (R : Ranked w b vs ρ) : Perm vs.length ρ := ⟨R.below, R.inj⟩
theorem Ranked.congr {w : World} {b : Heap} {vs : List Value} {ρ τ : Nat → Nat} (R : Ranked w b vs ρ) (h : ∀ i, i < vs.length → ρ i = τ i) : Ranked w b vs τ where
  below := fun i hi => h i hi ▸ R.below i hi
  inj := fun i j hi hj e => R.inj i j hi hj (by rw [h i hi, h j hj, e])
  typ := by
    obtain ⟨T, h1, h2, h3⟩ := R.typ
    refine ⟨T, h1, h2, fun i j hi hj hij A E s Q st hd hu hq => h3 i j hi hj hij st hd hu ?_⟩
    rw [h i hi, h j hj]; exact hq
  same := R.same
  eq := R.eq
theorem getD_map {α β : Type} {f : α → β} {l : List α} {d : α} {e : β} {i : Nat} (hi : i < l.length) : (l.map f).getD i e = f (l.getD i d) := by
  rw [List.getD, List.getD, List.getElem?_map, List.getElem?_eq_getElem hi]; rfl
/-- ints that are a rank's numbers -/
theorem ranked_tau {w : World} {b : Heap} {zs : List (Int × Tok)} {n : Nat} {τ : Nat → Nat} (T : Perm n τ) (len : zs.length = n) (val : zs.map (·.1) = (List.range n).map fun (i : Nat) => (τ i : Int)) (h2 : (zs.map (·.2)).Nodup) (h3 : ∀ z ∈ zs, z.2 ≠ 0) :
    Ranked w b (zs.map intV) τ := by
  subst len
  have hv : ∀ i, i < zs.length → (zs.getD i (0, 0)).1 = (τ i : Int) := fun i hi => by
    have := getD_map (f := fun z : Int × Tok => z.1) (d := (0, 0)) (e := 0) hi
    rw [← this, val, getD_map (f := fun (i : Nat) => (τ i : Int)) (d := 0) (by simpa using hi)]
    simp [List.getD, hi]
  have h1 : (zs.map (·.1)).Nodup := by
    rw [val, List.nodup_iff_pairwise_ne, List.pairwise_map]
    refine List.Pairwise.imp_of_mem ?_ List.nodup_range
    intro a b ha hb hab e
    exact hab (T.inj a b (List.mem_range.mp ha) (List.mem_range.mp hb) (by exact_mod_cast e))
  have R : Ranked w b (zs.map intV) _ := ranked_ints zs h1 h2 h3
  refine R.congr fun i hi => ?_
  have P := R.perm
  rw [List.length_map] at P hi
  refine perm_eq P T (fun i j hi hj => ?_) i hi
  have mi := at_mem (d := ((0, 0) : Int × Tok)) hi
  have mj := at_mem (d := ((0, 0) : Int × Tok)) hj
  have S : Strict (fun (x y : Int × Tok) => decide (x.1 < y.1)) zs := ⟨fun x _ => by simp, fun x _ y _ z _ => by simp; lia, fun x hx y hy hxy => by
    have := nodup_key h1 hx hy hxy
    simp; lia⟩
  by_cases hij : i = j
  · subst hij; exact ⟨fun h => absurd h (Nat.lt_irrefl _), fun h => absurd h (Nat.lt_irrefl _)⟩
  · have e := S.iff mi mj (at_ne (nodup_of_key h1) hi hj hij)
    rw [hv i hi, hv j hj] at e
    have := decide_eq_decide.mp e
    exact this.trans ⟨fun h => by exact_mod_cast h, fun h => by exact_mod_cast h⟩
theorem Count.nodup {zs : List (Int × Tok)} {n lo hi : Nat} (C : Count zs n lo hi) : (zs.map (·.2)).Nodup := by
  rw [List.nodup_iff_pairwise_ne]
  exact C.up.imp fun h => Nat.ne_of_lt h
theorem Count.ranked {w : World} {b : Heap} {zs : List (Int × Tok)} {n lo hi : Nat} (C : Count zs n lo hi) (h0 : 0 < lo) : Ranked w b (zs.map intV) id :=
  ranked_tau (perm_id n) C.len C.val C.nodup fun z hz => Nat.ne_of_gt (Nat.lt_of_lt_of_le h0 (C.low z hz))
/-- two neighbours of the count exchanged -/
def swapd (zs : List (Int × Tok)) (k : Nat) (t u : Tok) : List (Int × Tok) := zs.take (k - 1) ++ [((k : Int), t), (((k - 1 : Nat) : Int), u)] ++ zs.drop (k + 1)
theorem Count.swapped {w : World} {b : Heap} {zs : List (Int × Tok)} {n lo hi k : Nat} {t u : Tok} (C : Count zs n lo hi) (h0 : 0 < lo) (h1 : 1 ≤ k) (h2 : k < n) (ht : hi ≤ t) (hu : hi ≤ u) (htu : t ≠ u) : Ranked w b ((swapd zs k t u).map intV) (swp k) ∧ (swapd zs k t u).length = n := by
  have hl := C.len
  have hk : k - 1 + 1 = k := Nat.sub_add_cancel h1
  have lt : (zs.take (k - 1)).length = k - 1 := List.length_take_of_le (by rw [hl]; exact Nat.le_trans (Nat.sub_le _ _) (Nat.le_of_lt h2))
  have len : (swapd zs k t u).length = n := by
    unfold swapd
    rw [List.length_append, List.length_append, lt, List.length_drop, hl]
    show k - 1 + 1 + 1 + (n - (k + 1)) = n
    rw [hk, Nat.add_sub_of_le h2]
  have hpos : 0 < hi := by
    cases zs with
    | nil => exact absurd h2 (by rw [← hl]; exact Nat.not_lt_zero _)
    | cons z r => exact Nat.lt_of_le_of_lt (Nat.zero_le _) (C.high z (.head _))
  refine ⟨ranked_tau (perm_swp h1 h2) len ?_ ?_ ?_, len⟩
  · have key : ∀ j, j < n → zs[j]?.map (·.1) = some (j : Int) := fun j hj => by
      rw [← List.getElem?_map, C.val, List.getElem?_map, List.getElem?_range hj]; rfl
    apply List.ext_getElem?
    intro i
    rw [List.getElem?_map, List.getElem?_map]
    unfold swapd swp
    rcases Nat.lt_or_ge i n with hin | hin
    · rw [List.getElem?_range hin, List.append_assoc]
      show _ = some (((if i = k - 1 then k else if i = k then k - 1 else i) : Nat) : Int)
      rcases Nat.lt_trichotomy i (k - 1) with a | a | a
      · rw [if_neg (Nat.ne_of_lt a), if_neg (Nat.ne_of_lt (Nat.lt_of_lt_of_le a (Nat.sub_le _ _))), List.getElem?_append_left (by rw [lt]; exact a), List.getElem?_take_of_lt a]
        exact key i hin
      · subst a
        rw [if_pos rfl, List.getElem?_append_right (Nat.le_of_eq lt), lt, Nat.sub_self]; rfl
      · rw [if_neg (Nat.ne_of_gt a), List.getElem?_append_right (by rw [lt]; exact Nat.le_of_lt a), lt]
        rcases Nat.eq_or_lt_of_le (Nat.le_of_lt_succ (Nat.lt_succ_of_le (hk ▸ a : k ≤ i))) with e | e
        · subst e
          rw [if_pos rfl, Nat.sub_sub_self h1]; rfl
        · rw [if_neg (Nat.ne_of_gt e)]
          obtain ⟨d, rfl⟩ := Nat.le.dest (Nat.succ_le_of_lt e)
          rw [show k + 1 + d - (k - 1) = d + 1 + 1 by omega]
          show ((zs.drop (k + 1))[d]?).map (·.1) = _
          rw [List.getElem?_drop]
          exact key _ hin
    · have e1 : (List.range n)[i]? = none := List.getElem?_eq_none (by rw [List.length_range]; exact hin)
      rw [e1, List.getElem?_eq_none (by have := len; unfold swapd at this; rw [this]; exact hin)]
      rfl
  · unfold swapd
    have nd := C.nodup
    have hi' : ∀ x ∈ zs.map (·.2), x < hi := fun x hx => by
      obtain ⟨z, hz, rfl⟩ := List.mem_map.mp hx
      exact C.high z hz
    simp only [List.map_append, List.map_cons, List.map_nil, List.map_take, List.map_drop]
    generalize zs.map (·.2) = l at *
    have sub : (l.take (k - 1) ++ l.drop (k + 1)).Nodup := by
      refine nd.sublist ?_
      conv => rhs; rw [← List.take_append_drop (k - 1) l]
      refine List.Sublist.append (List.Sublist.refl _) ?_
      have : l.drop (k + 1) = (l.drop (k - 1)).drop 2 := by rw [List.drop_drop]; congr 1; lia
      rw [this]
      exact List.drop_sublist _ _
    rw [List.nodup_append] at sub
    obtain ⟨n1, n2, n3⟩ := sub
    rw [List.append_assoc, List.nodup_append]
    refine ⟨n1, ?_, fun a ha b hb => ?_⟩
    · rw [List.cons_append, List.cons_append, List.nil_append, List.nodup_cons, List.nodup_cons]
      refine ⟨fun hm => ?_, fun hm => ?_, n2⟩
      · rcases List.mem_cons.mp hm with e | hm
        · exact htu e
        · exact absurd (hi' _ (List.mem_of_mem_drop hm)) (Nat.not_lt_of_le ht)
      · exact absurd (hi' _ (List.mem_of_mem_drop hm)) (Nat.not_lt_of_le hu)
    · have ha' := hi' _ (List.mem_of_mem_take ha)
      rcases List.mem_append.mp hb with hb | hb
      · rcases List.mem_cons.mp hb with e | hb
        · rw [e]; exact Nat.ne_of_lt (Nat.lt_of_lt_of_le ha' ht)
        · rw [List.mem_singleton.mp hb]; exact Nat.ne_of_lt (Nat.lt_of_lt_of_le ha' hu)
      · exact n3 a ha b hb
  · intro z hz
    unfold swapd at hz
    rcases List.mem_append.mp hz with hz | hz
    · rcases List.mem_append.mp hz with hz | hz
      · exact Nat.ne_of_gt (Nat.lt_of_lt_of_le h0 (C.low z (List.mem_of_mem_take hz)))
      · rcases List.mem_cons.mp hz with rfl | hz
        · exact Nat.ne_of_gt (Nat.lt_of_lt_of_le hpos ht)
        · rw [List.mem_singleton.mp hz]; exact Nat.ne_of_gt (Nat.lt_of_lt_of_le hpos hu)
    · exact Nat.ne_of_gt (Nat.lt_of_lt_of_le h0 (C.low z (List.mem_of_mem_drop hz)))
end Mine
end

-- SL
section
open PySem PySem.W PySem.Calls PyProof.Rows
set_option maxRecDepth 100000
namespace Mine
section
variable {w : World} {A : Around} {E : Value → Shared → Prop} {s : Shared} {h₀ H : Heap} {L a : Addr} {m : Str → Option Value} {news : List (Addr × Obj)} {Q : Value → Shared → Prop}
theorem slice_led {value slice : PySem.Expr} {vs : List Value} {c x y : Nat} {vl vu : Value} {lo hi : Option Int} (F : Fr h₀ L H m) (N : News h₀ L H news) (hm : (a, listOf vs.toArray c) ∈ news) (hs : s.heap = H.push { cls := .type "slice", data := .fields #[vl, vu, .none] })
    (pl : IsPart vl lo) (pu : IsPart vu hi) (hb : sliceBounds lo hi none vs.length = ((x : Int), (y : Int), 1)) (h66 : vs.length ≤ 66)
    (h : ∀ D h', Fr h₀ L h' m → News h₀ L h' ((D, listOf ((vs.drop x).take (y - x)).toArray 0) :: news) → (∀ q ∈ news, q.1 < D) → Q (.ref D) { s with heap := h' })
    (hsub : subscripted slice false (.ref a) (.ref H.objs.size) = operate [.ref H.objs.size, .ref a] (getItem (.ref a) (.ref H.objs.size)) := by with_unfolding_all rfl) :
    wpAny (model PG w) A (subscriptTail value slice (.ref a) (.ref H.objs.size)) Q E s := by
  obtain ⟨heap, g, d, tk, os⟩ := s
  cases hs
  have F1 := F.push { cls := .type "slice", data := .fields #[vl, vu, .none] }
  have N1 := News.push F N { cls := .type "slice", data := .fields #[vl, vu, .none] } rfl
  have hl : (H.push { cls := .type "slice", data := .fields #[vl, vu, .none] }).IsList a vs.toArray := N1.isList (.tail _ hm)
  have e : slicePick vs.toArray lo hi none = ((vs.drop x).take (y - x)).toArray := kmk_pick_nat (lo := lo) (hi := hi) vs.toArray (by rw [List.size_toArray]; exact hb)
  refine tail_any hl.typeIs slot_list_getitem.lookup (wpAny_getItem_list_slice hl ⟨_, Heap.get?_push_size _ rfl, rfl, rfl⟩ pl pu .none (by simp) ?_ (by rw [List.size_toArray, sizeLine_eq]; lia)) hsub
  rw [e]
  exact h _ _ (F1.push _) (fun q hq => by
    have N2 := News.push F1 N1 { cls := .type "list", data := .seq ((vs.drop x).take (y - x)).toArray } rfl
    rcases List.mem_cons.mp hq with rfl | hq
    · exact N2 _ (.head _)
    · exact N2 _ (.tail _ (.tail _ hq))) (fun q hq => Heap.lt_size (N1 q (.tail _ hq)).1)
theorem add_led {b : Addr} {xs ys : List Value} {c d : Nat} (F : Fr h₀ L s.heap m) (N : News h₀ L s.heap news) (ma : (a, listOf xs.toArray c) ∈ news) (mb : (b, listOf ys.toArray d) ∈ news) (h66 : xs.length + ys.length ≤ 200)
    (h : ∀ D h', Fr h₀ L h' m → News h₀ L h' ((D, listOf (xs ++ ys).toArray 0) :: news) → (∀ q ∈ news, q.1 < D) → Q (.ref D) { s with heap := h' }) : wpAny (model PG w) A (binaryOp .Add (.ref a) (.ref b)) Q E s :=
  add_lists F N (N.isList ma) (N.isList mb) (fun h' F' N' => h _ h' F' N' (fun q hq => Heap.lt_size (N q hq).1)) (by rw [sizeLine_eq]; lia)
/-- the last item, `L[-1]` -/
theorem last_led {value slice : PySem.Expr} {vs : List Value} {c : Nat} {u : Tok} {x : Value} (N : News h₀ L s.heap news) (hm : (a, listOf vs.toArray c) ∈ news) (hx : vs[vs.length - 1]? = some x) (h66 : vs.length ≤ 100) (h : Q x s)
    (hs : subscripted slice false (.ref a) (.int (-1) u) = operate [.ref a, .int (-1) u] (getItem (.ref a) (.int (-1) u)) := by with_unfolding_all rfl) : wpAny (model PG w) A (subscriptTail value slice (.ref a) (.int (-1) u)) Q E s := by
  have hl : s.heap.IsList a vs.toArray := N.isList hm
  have h0 : vs.length ≠ 0 := fun e => by
    rw [List.length_eq_zero_iff.mp e] at hx
    exact absurd hx (by simp)
  refine tail_any hl.typeIs slot_list_getitem.lookup (wpAny_getItem_list_neg hl (by decide) (by rw [List.size_toArray]; lia) (by decide) (x := x) ?_ h) hs
  rw [List.size_toArray, show ((-1 : Int) + (vs.length : Int)).toNat = vs.length - 1 by lia, List.getElem?_toArray]
  exact hx
theorem cut_to {n i : Nat} (h : i ≤ n) : sliceBounds none (some (i : Int)) none n = (((0 : Nat) : Int), (i : Int), 1) := by
  unfold sliceBounds
  simp
  lia
theorem cut_from {n i : Nat} (h : i ≤ n) : sliceBounds (some (i : Int)) none none n = ((i : Int), (n : Int), 1) := by
  unfold sliceBounds
  simp
  lia
theorem append_led {D : Addr} {news' : List (Addr × Obj)} {vs : List Value} {n : Nat} {x : Value} (F : Fr h₀ L s.heap m) (N : News h₀ L s.heap news) (U : Upd D (listOf vs.toArray n) (listOf (vs ++ [x]).toArray (n + 1)) news news') (h66 : vs.length ≤ 100)
    (h : ∀ h', Fr h₀ L h' m → News h₀ L h' news' → Q .none { s with heap := h' }) : wpAny (model PG w) A (call (.builtin "list.append") [.ref D, x]) Q E s := by
  have hm := N _ (upd_mem U)
  refine append_at hm.1 (fun h' hs ho => ?_) (by rw [List.size_toArray, sizeLine_eq]; lia)
  rw [List.push_toArray] at ho
  obtain ⟨F', N'⟩ := news_upd F N U hs ho
  exact h h' F' N'
end
end Mine
end

-- CL
section
open PySem PySem.W PySem.Calls PyProof.Rows
set_option maxRecDepth 100000
namespace Mine
abbrev nsObj : Obj := { cls := .type "dict", data := .dict #[] }
abbrev cellObj (v : Option Value) : Obj := { cls := .type "cell", data := .cell v }
theorem cells_none : ∀ {names : List (Str × NameKind)} {n : Nat} {acc : List (Str × Addr)}, (∀ y ∈ names, y.2 ≠ .cell) → cellsFrom n names acc = acc
  | [], _, _, _ => rfl
  | (x, k) :: r, n, acc, h => by
    have e : (k == NameKind.cell) = false := by
      have := h (x, k) (.head _)
      cases k <;> first | rfl | exact absurd rfl this
    unfold cellsFrom
    rw [e]
    exact cells_none fun y hy => h y (.tail _ hy)
theorem push_none : ∀ {names : List (Str × NameKind)} {h : Heap}, (∀ y ∈ names, y.2 ≠ .cell) → pushCells h names = h
  | [], _, _ => rfl
  | (x, k) :: r, g, h => by
    have e : (k == NameKind.cell) = false := by
      have := h (x, k) (.head _)
      cases k <;> first | rfl | exact absurd rfl this
    unfold pushCells
    rw [e]
    exact push_none fun y hy => h y (.tail _ hy)
section
variable {w : World} {A : Around} {E : Value → Shared → Prop} {s : Shared} {h₀ : Heap} {L : Addr} {m : Str → Option Value} {news : List (Addr × Obj)}
/-- a list made by a comprehension whose running name lies in a cell -/
theorem block_cell {elt iter : PySem.Expr} {x : Str} {px pos : Pos} {scope : Scope} {cl : List (Str × Addr)} {env : Env} {vs : List Value} {c : Nat} {ax : Addr} {g : Nat → Value → Prop} {RR : Value → Addr → Result → Shared → Prop}
    (hA : A.handled = none) (F : Fr h₀ L s.heap m) (N : News h₀ L s.heap news) (hm : (ax, listOf vs.toArray c) ∈ news) (h66 : vs.length ≤ 66)
    (hkind : scope.kind = .function)
    (hcells : ∀ n, cellsFrom n scope.names cl = (x, n) :: cl) (hpush : ∀ h : Heap, pushCells h scope.names = h.push (cellObj none)) (hx : (relabel scope env).names.lookup x = some .cell)
    (turn : ∀ k v I C Cc D h tk oc (ys : List Value) (Q' E' : Value → Shared → Prop), vs[k]? = some v → oc.data = .cell (some v) → Fr h₀ L h m → News h₀ L h ((I, litObj ax ((k + 1 : Nat) : Int)) :: (C, nsObj) :: (Cc, oc) :: (D, listOf ys.toArray ys.length) :: news) →
      (∀ q ∈ news, q.1 < I) → @LT.lt Nat _ I D → @LT.lt Nat _ D C → @LT.lt Nat _ C Cc →
      (∀ y h' tk', g k y → Fr h₀ L h' m → News h₀ L h' ((I, litObj ax ((k + 1 : Nat) : Int)) :: (C, nsObj) :: (Cc, oc) :: (D, listOf ys.toArray ys.length) :: news) → Q' y { s with heap := h', toks := tk' }) →
      wpAny (model PG w) A (eval elt (compEnvC scope ((x, Cc) :: cl) C env)) Q' E' { s with heap := h, toks := tk })
    (fin : ∀ D C h tk (ys : List Value) oC mC, ys.length = vs.length → (∀ k y, ys[k]? = some y → g k y) → Fr h₀ L h m → News h₀ L h ((C, oC) :: (D, listOf ys.toArray ys.length) :: news) → h.Ns C mC → (∀ q ∈ news, @LT.lt Nat _ q.1 D) → @LT.lt Nat _ D C → RR (.ref D) C (.ok .next) { s with heap := h, toks := tk }) :
    wpAny (model PG w) A (pyIter (.ref ax)) (fun it s₂ => wpAny (model PG w) A (newList []) (fun acc s₃ => wpAny (model PG w) A (newFunctionEnv scope env.globals cl [] env.qual none .none (some env)) (fun cenv s₄ =>
      codeAny (model PG w) A (.compStart (.ListComp elt [⟨.Name x px, iter, [], 0⟩] scope pos) 0 it acc { cenv with scope := relabel scope env }) (RR acc cenv.locals) s₄) E s₃) E s₂) E s := by
  refine pyIter_led F N hm fun I h₁ F₁ N₁ l₁ => ?_
  refine wpAny_newObj_type ?_
  have F₂ := F₁.push (listOf #[] 0)
  have N₂ := News.push F₁ N₁ (listOf #[] 0) rfl
  have l₂ : @LT.lt Nat _ I h₁.objs.size := Heap.lt_size (N₁ _ (.head _)).1
  generalize hD : h₁.objs.size = D at F₂ N₂ l₂
  generalize hH : h₁.push (listOf #[] 0) = h₂ at F₂ N₂
  simp only [newFunctionEnv, Option.isSome_some, if_true]
  refine wpAny_bind (wpAny_alloc ?_)
  refine wpAny_bind (wpAny_layCells _ (fun name kind cells => by cases hkc : kind == NameKind.cell <;> simp [hkc]) _ _ _ _ ?_)
  rw [hcells, hpush]
  have F₃ := F₂.push nsObj
  have N₃ := News.push F₂ N₂ nsObj rfl
  have ns₃ : (h₂.push nsObj).Ns h₂.objs.size fun _ => none := Heap.Ns.new h₂ (.type "dict")
  have l₃ : @LT.lt Nat _ D h₂.objs.size := Heap.lt_size (N₂ _ (.head _)).1
  generalize hC : h₂.objs.size = C at F₃ N₃ ns₃ l₃
  generalize hH3 : h₂.push nsObj = h₃ at F₃ N₃ ns₃
  have F₄ := F₃.push (cellObj none)
  have N₄ := News.push F₃ N₃ (cellObj none) rfl
  have ns₄ := ns₃.push (cellObj none)
  have l₄ : @LT.lt Nat _ C h₃.objs.size := Heap.lt_size (N₃ _ (.head _)).1
  generalize hCc : h₃.objs.size = Cc at F₄ N₄ l₄
  generalize hH4 : h₃.push (cellObj none) = h₄ at F₄ N₄ ns₄
  simp only [List.forIn_nil, pure_bind]
  refine wpAny_pure ?_
  have hIC : @LT.lt Nat _ I C := Nat.lt_trans l₂ l₃
  have hICc : @LT.lt Nat _ I Cc := Nat.lt_trans hIC l₄
  have hDCc : @LT.lt Nat _ D Cc := Nat.lt_trans l₃ l₄
  have lN : ∀ q ∈ news, @LT.lt Nat _ q.1 D ∧ @LT.lt Nat _ q.1 C ∧ @LT.lt Nat _ q.1 Cc := fun q hq => ⟨Nat.lt_trans (l₁ q hq) l₂, Nat.lt_trans (l₁ q hq) hIC, Nat.lt_trans (l₁ q hq) hICc⟩
  have hCn := (N₄ (C, nsObj) (.tail _ (.head _)))
  have loop : codeAny (model PG w) A (.compLoop (.ListComp elt [⟨.Name x px, iter, [], 0⟩] scope pos) 0 (.ref I) (.ref D) (compEnvC scope ((x, Cc) :: cl) C env)) (RR (.ref D) C) { s with heap := h₄ } := by
    refine codeAny_compLoop_tests
      (fun n s' => ∃ k h tk ys oc ov, n = vs.length + 1 - k ∧ k ≤ vs.length ∧ ys.length = k ∧ (∀ j y, ys[j]? = some y → g j y) ∧ oc.data = .cell ov ∧ Fr h₀ L h m ∧
        News h₀ L h ((I, litObj ax ((k : Nat) : Int)) :: (C, nsObj) :: (Cc, oc) :: (D, listOf (ys : List Value).toArray ys.length) :: news) ∧ s' = { s with heap := h, toks := tk }) ?_ (vs.length + 1)
      ⟨0, h₄, s.toks, [], cellObj none, none, rfl, Nat.zero_le _, rfl, fun j y e => by simp at e, rfl, F₄, fun q hq => N₄ q ?_, rfl⟩
    · rintro n s' ⟨k, h, tk, ys, oc, ov, rfl, hk, hyl, hg, hov, F', N', rfl⟩
      have hl : h.IsList ax vs.toArray := N'.isList (.tail _ (.tail _ (.tail _ (.tail _ hm))))
      by_cases hlt : k < vs.length
      · refine pyNext_lit (N' _ (.head _)).1 hl (x := vs[k]) (by simp [hlt]) fun h' hit hsame => ?_
        obtain ⟨F5, N5⟩ := news_upd F' N' (o' := litObj ax ((k + 1 : Nat) : Int)) (.head fun p hp => by
          rcases List.mem_cons.mp hp with rfl | hp
          · exact Nat.ne_of_gt hIC
          rcases List.mem_cons.mp hp with rfl | hp
          · exact Nat.ne_of_gt hICc
          rcases List.mem_cons.mp hp with rfl | hp
          · exact Nat.ne_of_gt l₂
          · exact Nat.ne_of_lt (l₁ p hp)) hsame hit
        · refine wpAny_assign_Name (wpAny_storeName_cell (c := Cc) (v₀ := ov) (by simp [compEnvC, relabel, hkind]) hx (by simp [compEnvC]) ⟨oc, (N5 _ (.tail _ (.tail _ (.head _)))).1, hov⟩ fun h'' hc hs'' => ?_)
          obtain ⟨oc', ho', hd'⟩ := hc
          obtain ⟨F6, N6⟩ := news_upd F5 N5 (.tail (Nat.ne_of_lt hICc) (.tail (Nat.ne_of_lt l₄) (.head fun p hp => by
            rcases List.mem_cons.mp hp with rfl | hp
            · exact Nat.ne_of_lt hDCc
            · exact Nat.ne_of_lt (lN p hp).2.2))) hs'' ho'
          · refine wpAny_tests_nil ?_
            simp only [if_true]
            refine turn k vs[k] I C Cc D h'' tk oc' ys _ _ (by simp [hlt]) hd' F6 N6 l₁ l₂ l₃ l₄ fun y h7 tk7 hgy F7 N7 => ?_
            refine append_led (D := D) F7 N7 (.tail (Nat.ne_of_lt l₂) (.tail (Nat.ne_of_gt l₃) (.tail (Nat.ne_of_gt hDCc) (.head fun p hp => Nat.ne_of_lt (lN p hp).1)))) (by lia) fun h8 F8 N8 => ?_
            refine ⟨vs.length + 1 - (k + 1), by lia, k + 1, h8, tk7, ys ++ [y], oc', some vs[k], rfl, hlt, by simp [hyl], fun j z e => ?_, hd', F8, ?_, rfl⟩
            · by_cases hj : j < ys.length
              · rw [List.getElem?_append_left hj] at e; exact hg j z e
              · rw [List.getElem?_append_right (by lia)] at e
                have : j = k := by
                  have := (List.getElem?_eq_some_iff.mp e).1
                  simp at this
                  lia
                subst this
                rw [hyl, Nat.sub_self] at e
                cases e
                exact hgy
            · simpa using N8
      · obtain rfl : k = vs.length := Nat.le_antisymm hk (Nat.not_lt.mp hlt)
        refine wpAny_pyNext_list_end hA (litObj_iter (N' _ (.head _)).1) hl (by simp) fun h' he => ?_
        have keep : ∀ q ∈ (C, nsObj) :: (Cc, oc) :: (D, listOf ys.toArray ys.length) :: news, h'.get? q.1 = some q.2 ∧ q.1 ≠ L ∧ h₀.get? q.1 = none := fun q hq => by
          refine ⟨he _ _ ?_ (N' q (.tail _ hq)).1, (N' q (.tail _ hq)).2⟩
          rcases List.mem_cons.mp hq with rfl | hq
          · exact Nat.ne_of_gt hIC
          rcases List.mem_cons.mp hq with rfl | hq
          · exact Nat.ne_of_gt hICc
          rcases List.mem_cons.mp hq with rfl | hq
          · exact Nat.ne_of_gt l₂
          · exact Nat.ne_of_lt (l₁ q hq)
        have F9 : Fr h₀ L h' m := ⟨F'.ns.at' fun o e => he L o (Ne.symm (N' _ (.head _)).2.1) e, fun b o e => he b o (fun z => by rw [z, (N' _ (.head _)).2.2] at e; cases e) (F'.keep b o e), F'.above⟩
        refine fin D C h' tk ys nsObj (fun _ => none) hyl hg F9 (fun q hq => keep q ?_) (ns₄.at' fun o e => ?_) (fun q hq => (lN q hq).1) l₃
        · rcases List.mem_cons.mp hq with rfl | hq
          · exact .head _
          · exact .tail _ (.tail _ hq)
        · rw [hCn.1] at e
          cases e
          exact (keep _ (.head _)).1
    · rcases List.mem_cons.mp hq with rfl | hq
      · exact .tail _ (.tail _ (.tail _ (.head _)))
      rcases List.mem_cons.mp hq with rfl | hq
      · exact .tail _ (.head _)
      rcases List.mem_cons.mp hq with rfl | hq
      · exact .head _
      rcases List.mem_cons.mp hq with rfl | hq
      · exact .tail _ (.tail _ (.head _))
      · exact .tail _ (.tail _ (.tail _ (.tail _ hq)))
  exact codeAny_compStart_list loop (wpAny_pyIter_listiter (litObj_iter (N₄ _ (.tail _ (.tail _ (.tail _ (.head _))))).1) loop)
/-- a list made by a comprehension whose running name is a local one; with or without a test -/
theorem block_loc {elt iter : PySem.Expr} {ifs : List PySem.Expr} {x : Str} {px pos : Pos} {scope : Scope} {cl : List (Str × Addr)} {env : Env} {vs : List Value} {c : Nat} {ax : Addr} {J : Nat → List Value → Prop} {RR : Value → Addr → Result → Shared → Prop}
    (hA : A.handled = none) (F : Fr h₀ L s.heap m) (N : News h₀ L s.heap news) (hm : (ax, listOf vs.toArray c) ∈ news) (h66 : vs.length ≤ 66)
    (hkind : scope.kind = .function)
    (hcell : ∀ y ∈ scope.names, y.2 ≠ .cell) (hx : scope.names.lookup x = some .local)
    (J0 : J 0 [])
    (turn : ∀ k v I C D h tk oC m₂ (ys : List Value) (Q' E' : Value → Shared → Prop) (R' : Shared → Prop), k < vs.length → vs[k]? = some v → J k ys → LCg.NsObj oC m₂ → m₂ x = some v → Fr h₀ L h m → News h₀ L h ((I, litObj ax ((k + 1 : Nat) : Int)) :: (C, oC) :: (D, listOf ys.toArray ys.length) :: news) →
      (∀ q ∈ news, q.1 < I) → @LT.lt Nat _ I D → @LT.lt Nat _ D C →
      (∀ y h' tk', J (k + 1) (ys ++ [y]) → Fr h₀ L h' m → News h₀ L h' ((I, litObj ax ((k + 1 : Nat) : Int)) :: (C, oC) :: (D, listOf ys.toArray ys.length) :: news) → Q' y { s with heap := h', toks := tk' }) →
      (∀ h' tk', J (k + 1) ys → Fr h₀ L h' m → News h₀ L h' ((I, litObj ax ((k + 1 : Nat) : Int)) :: (C, oC) :: (D, listOf ys.toArray ys.length) :: news) → R' { s with heap := h', toks := tk' }) →
      wpAny (model PG w) A (forIn ifs true fun c r => if r = true then do let ok ← isTrue c (compEnvC scope cl C env) (eval c (compEnvC scope cl C env)); pure (ForInStep.yield ok) else pure (ForInStep.yield r))
        (fun ok s₃ => if ok = true then wpAny (model PG w) A (eval elt (compEnvC scope cl C env)) Q' E' s₃ else R' s₃) E' { s with heap := h, toks := tk })
    (fin : ∀ D C h tk (ys : List Value) oC mC, J vs.length ys → Fr h₀ L h m → News h₀ L h ((C, oC) :: (D, listOf ys.toArray ys.length) :: news) → h.Ns C mC → (∀ q ∈ news, @LT.lt Nat _ q.1 D) → @LT.lt Nat _ D C → RR (.ref D) C (.ok .next) { s with heap := h, toks := tk }) :
    wpAny (model PG w) A (pyIter (.ref ax)) (fun it s₂ => wpAny (model PG w) A (newList []) (fun acc s₃ => wpAny (model PG w) A (newFunctionEnv scope env.globals cl [] env.qual none .none (some env)) (fun cenv s₄ =>
      codeAny (model PG w) A (.compStart (.ListComp elt [⟨.Name x px, iter, ifs, 0⟩] scope pos) 0 it acc { cenv with scope := relabel scope env }) (RR acc cenv.locals) s₄) E s₃) E s₂) E s := by
  refine pyIter_led F N hm fun I h₁ F₁ N₁ l₁ => ?_
  refine wpAny_newObj_type ?_
  have F₂ := F₁.push (listOf #[] 0)
  have N₂ := News.push F₁ N₁ (listOf #[] 0) rfl
  have l₂ : @LT.lt Nat _ I h₁.objs.size := Heap.lt_size (N₁ _ (.head _)).1
  generalize hD : h₁.objs.size = D at F₂ N₂ l₂
  generalize hH : h₁.push (listOf #[] 0) = h₂ at F₂ N₂
  simp only [newFunctionEnv, Option.isSome_some, if_true]
  refine wpAny_bind (wpAny_alloc ?_)
  refine wpAny_bind (wpAny_layCells _ (fun name kind cells => by cases hkc : kind == NameKind.cell <;> simp [hkc]) _ _ _ _ ?_)
  rw [cells_none hcell, push_none hcell]
  have F₃ := F₂.push nsObj
  have N₃ := News.push F₂ N₂ nsObj rfl
  have ns₃ : (h₂.push nsObj).Ns h₂.objs.size fun _ => none := Heap.Ns.new h₂ (.type "dict")
  have l₃ : @LT.lt Nat _ D h₂.objs.size := Heap.lt_size (N₂ _ (.head _)).1
  generalize hC : h₂.objs.size = C at F₃ N₃ ns₃ l₃
  generalize hH3 : h₂.push nsObj = h₃ at F₃ N₃ ns₃
  simp only [List.forIn_nil, pure_bind]
  refine wpAny_pure ?_
  have hIC : @LT.lt Nat _ I C := Nat.lt_trans l₂ l₃
  have lN : ∀ q ∈ news, @LT.lt Nat _ q.1 D ∧ @LT.lt Nat _ q.1 C := fun q hq => ⟨Nat.lt_trans (l₁ q hq) l₂, Nat.lt_trans (l₁ q hq) hIC⟩
  have hCn := (N₃ (C, nsObj) (.head _))
  obtain ⟨oC₀, eC₀, xC₀⟩ := LCg.ns_obj ns₃
  rw [hCn.1] at eC₀
  cases eC₀
  have loop : codeAny (model PG w) A (.compLoop (.ListComp elt [⟨.Name x px, iter, ifs, 0⟩] scope pos) 0 (.ref I) (.ref D) (compEnvC scope cl C env)) (RR (.ref D) C) { s with heap := h₃ } := by
    refine codeAny_compLoop_tests
      (fun n s' => ∃ k h tk ys oC m₂, n = vs.length + 1 - k ∧ k ≤ vs.length ∧ List.length (α := Value) ys ≤ k ∧ J k ys ∧ LCg.NsObj oC m₂ ∧ Fr h₀ L h m ∧
        News h₀ L h ((I, litObj ax ((k : Nat) : Int)) :: (C, oC) :: (D, listOf (ys : List Value).toArray ys.length) :: news) ∧ s' = { s with heap := h, toks := tk }) ?_ (vs.length + 1)
      ⟨0, h₃, s.toks, [], nsObj, _, rfl, Nat.zero_le _, Nat.le_refl _, J0, xC₀, F₃, fun q hq => N₃ q ?_, rfl⟩
    · rintro n s' ⟨k, h, tk, ys, oC, m₂, rfl, hk, hyl, hJ, hoC, F', N', rfl⟩
      have hl : h.IsList ax vs.toArray := N'.isList (.tail _ (.tail _ (.tail _ hm)))
      by_cases hlt : k < vs.length
      · refine pyNext_lit (N' _ (.head _)).1 hl (x := vs[k]) (by simp [hlt]) fun h' hit hsame => ?_
        obtain ⟨F5, N5⟩ := news_upd F' N' (o' := litObj ax ((k + 1 : Nat) : Int)) (.head fun p hp => by
          rcases List.mem_cons.mp hp with rfl | hp
          · exact Nat.ne_of_gt hIC
          rcases List.mem_cons.mp hp with rfl | hp
          · exact Nat.ne_of_gt l₂
          · exact Nat.ne_of_lt (l₁ p hp)) hsame hit
        refine wpAny_assign_Name (wpAny_storeName_local (lookup_relabel_local hx) (hoC.ns (N5 _ (.tail _ (.head _))).1) (fun h'' hn'' hs'' => ?_) (by simp [compEnvC, relabel, hkind]))
        obtain ⟨oC', heC, hoC'⟩ := LCg.ns_obj hn''
        obtain ⟨F6, N6⟩ := news_upd F5 N5 (.tail (Nat.ne_of_lt hIC) (.head fun p hp => by
          rcases List.mem_cons.mp hp with rfl | hp
          · exact Nat.ne_of_lt l₃
          · exact Nat.ne_of_lt (lN p hp).2)) hs'' heC
        refine turn k vs[k] I C D h'' _ oC' _ ys _ _ _ hlt (by simp [hlt]) hJ hoC' (by simp) F6 N6 l₁ l₂ l₃ (fun y h7 tk7 hJ' F7 N7 => ?_) fun h7 tk7 hJ' F7 N7 => ?_
        · refine append_led (D := D) F7 N7 (.tail (Nat.ne_of_lt l₂) (.tail (Nat.ne_of_gt l₃) (.head fun p hp => Nat.ne_of_lt (lN p hp).1))) (by lia) fun h8 F8 N8 => ?_
          refine ⟨vs.length + 1 - (k + 1), by lia, k + 1, h8, tk7, ys ++ [y], oC', _, rfl, hlt, by simp; lia, hJ', hoC', F8, by simpa using N8, rfl⟩
        · exact ⟨vs.length + 1 - (k + 1), by lia, k + 1, h7, tk7, ys, oC', _, rfl, hlt, by lia, hJ', hoC', F7, N7, rfl⟩
      · obtain rfl : k = vs.length := Nat.le_antisymm hk (Nat.not_lt.mp hlt)
        refine wpAny_pyNext_list_end hA (litObj_iter (N' _ (.head _)).1) hl (by simp) fun h' he => ?_
        have keep : ∀ q ∈ (C, oC) :: (D, listOf ys.toArray ys.length) :: news, h'.get? q.1 = some q.2 ∧ q.1 ≠ L ∧ h₀.get? q.1 = none := fun q hq => by
          refine ⟨he _ _ ?_ (N' q (.tail _ hq)).1, (N' q (.tail _ hq)).2⟩
          rcases List.mem_cons.mp hq with rfl | hq
          · exact Nat.ne_of_gt hIC
          rcases List.mem_cons.mp hq with rfl | hq
          · exact Nat.ne_of_gt l₂
          · exact Nat.ne_of_lt (l₁ q hq)
        have F9 : Fr h₀ L h' m := ⟨F'.ns.at' fun o e => he L o (Ne.symm (N' _ (.head _)).2.1) e, fun b o e => he b o (fun z => by rw [z, (N' _ (.head _)).2.2] at e; cases e) (F'.keep b o e), F'.above⟩
        exact fin D C h' tk ys oC m₂ hJ F9 keep (hoC.ns (keep _ (.head _)).1) (fun q hq => (lN q hq).1) l₃
    · rcases List.mem_cons.mp hq with rfl | hq
      · exact .tail _ (.tail _ (.head _))
      rcases List.mem_cons.mp hq with rfl | hq
      · exact .head _
      rcases List.mem_cons.mp hq with rfl | hq
      · exact .tail _ (.head _)
      · exact .tail _ (.tail _ (.tail _ hq))
  exact codeAny_compStart_list loop (wpAny_pyIter_listiter (litObj_iter (N₃ _ (.tail _ (.tail _ (.head _)))).1) loop)
theorem comp_eval {elt iter : PySem.Expr} {ifs : List PySem.Expr} {x : Str} {px pos : Pos} {scope : Scope} {cl : List (Str × Addr)} {env : Env} {ax : Addr} {Q : Value → Shared → Prop}
    (hclos : closureFor scope env = pure cl) (hkind : scope.kind = .function) (hnames : ∀ y ∈ scope.names, y.2 = .local → scope.names.lookup y.1 = some .local)
    (hiter : ∀ Q' : Value → Shared → Prop, Q' (.ref ax) s → wpAny (model PG w) A (eval iter env) Q' E s)
    (blk : wpAny (model PG w) A (pyIter (.ref ax)) (fun it s₂ => wpAny (model PG w) A (newList []) (fun acc s₃ => wpAny (model PG w) A (newFunctionEnv scope env.globals cl [] env.qual none .none (some env)) (fun cenv s₄ =>
      codeAny (model PG w) A (.compStart (.ListComp elt [⟨.Name x px, iter, ifs, 0⟩] scope pos) 0 it acc { cenv with scope := relabel scope env }) (compPost (model PG w) A E none Q acc cenv.locals) s₄) E s₃) E s₂) E s)
    (hs : ∀ x, foldedSetIterable iter env x = pure x := by intro _; rfl) :
    wpAny (model PG w) A (eval (.ListComp elt [⟨.Name x px, iter, ifs, 0⟩] scope pos) env) Q E s := by
  rw [eval_ListComp]
  exact wpAny_comprehension_free (use := none) rfl hs hclos hkind hnames (hiter _ blk)
theorem comp_assign {elt iter : PySem.Expr} {ifs : List PySem.Expr} {x y : Str} {px py pos spos : Pos} {scope : Scope} {cl : List (Str × Addr)} {env : Env} {ax : Addr} {Q : Flow → Shared → Prop}
    (hsw : swapsWith (.ListComp elt [⟨.Name x px, iter, ifs, 0⟩] scope pos) (some (.Name y py)) spos.line env = pure true)
    (hclos : closureFor scope env = pure cl) (hkind : scope.kind = .function) (hnames : ∀ y ∈ scope.names, y.2 = .local → scope.names.lookup y.1 = some .local)
    (hiter : ∀ Q' : Value → Shared → Prop, Q' (.ref ax) s → wpAny (model PG w) A (eval iter env) Q' E s)
    (blk : wpAny (model PG w) A (pyIter (.ref ax)) (fun it s₂ => wpAny (model PG w) A (newList []) (fun acc s₃ => wpAny (model PG w) A (newFunctionEnv scope env.globals cl [] env.qual none .none (some env)) (fun cenv s₄ =>
      codeAny (model PG w) A (.compStart (.ListComp elt [⟨.Name x px, iter, ifs, 0⟩] scope pos) 0 it acc { cenv with scope := relabel scope env }) (compPost (model PG w) A E (some (assign (.Name y py) env)) (fun _ s' => Q .next s') acc cenv.locals) s₄) E s₃) E s₂) E s)
    (hs : ∀ x, foldedSetIterable iter env x = pure x := by intro _; rfl) :
    wpAny (model PG w) A (exec (.Assign [.Name y py] (.ListComp elt [⟨.Name x px, iter, ifs, 0⟩] scope pos) spos) env) Q E s := by
  rw [exec_Assign_Name_used _ _ _ _ hsw]
  refine wpAny_bind (wpAny_standAt (wpAny_bind ?_))
  show wpAny _ A (do let _ ← comprehension (.ListComp elt [⟨.Name x px, iter, ifs, 0⟩] scope pos) scope env _ (newList []) false (eval iter env) (some (assign (.Name y py) env))) _ _ s
  exact wpAny_bind (wpAny_mono (wpAny_comprehension_free (use := some (assign (.Name y py) env)) (Q := fun _ s' => Q .next s') rfl hs hclos hkind hnames (hiter _ blk)) (fun _ s' hq => wpAny_pure (wpAny_pure hq)) fun _ _ e => e)
theorem comp_end {C D : Addr} {h : Heap} {tk : Nat} {oC : Obj} {mC : Str → Option Value} {oD : Obj} {Q : Value → Shared → Prop} (F : Fr h₀ L h m) (N : News h₀ L h ((C, oC) :: (D, oD) :: news)) (hn : h.Ns C mC) (l : ∀ q ∈ news, @LT.lt Nat _ q.1 D) (lD : @LT.lt Nat _ D C)
    (hQ : ∀ h', Fr h₀ L h' m → News h₀ L h' ((D, oD) :: news) → Q (.ref D) { s with heap := h', toks := tk }) : compPost (model PG w) A E none Q (.ref D) C (.ok .next) { s with heap := h, toks := tk } := by
  have hC := N _ (.head _)
  refine ⟨mC, hn, fun h'' hs'' => hQ h'' (F.change hs'' hC.2.1 hC.2.2) fun q hq => ?_⟩
  have z := N q (.tail _ hq)
  refine ⟨(hs''.2 q.1 ?_).trans z.1, z.2⟩
  rcases List.mem_cons.mp hq with rfl | hq
  · exact Nat.ne_of_lt lD
  · exact Nat.ne_of_lt (Nat.lt_trans (l q hq) lD)
theorem comp_end_as {C D : Addr} {h : Heap} {tk : Nat} {oC : Obj} {mC : Str → Option Value} {oD : Obj} {y : Str} {py : Pos} {env : Env} {Q : Value → Shared → Prop} (F : Fr h₀ L h m) (N : News h₀ L h ((C, oC) :: (D, oD) :: news)) (hn : h.Ns C mC) (l : ∀ q ∈ news, @LT.lt Nat _ q.1 D) (lD : @LT.lt Nat _ D C)
    (hLe : env.locals = L) (hy : env.kindOf y = some .local) (hp : (env.scope.kind == .class || (env.scope.kind == .module && env.locals != env.globals)) = false)
    (hQ : ∀ h', Fr h₀ L h' (fun z => if z = y then some (.ref D) else m z) → News h₀ L h' ((D, oD) :: news) → Q .none { s with heap := h', toks := tk + 1 }) : compPost (model PG w) A E (some (assign (.Name y py) env)) Q (.ref D) C (.ok .next) { s with heap := h, toks := tk } := by
  subst hLe
  have hC := N _ (.head _)
  show wpAny _ A (assign (.Name y py) env (.ref D)) _ _ _
  refine wpAny_assign_Name (wpAny_storeName_local hy F.ns (fun h₂ hn₂ hs₂ => ?_) hp)
  refine ⟨mC, hn.sameBut hs₂ hC.2.1, fun h'' hs'' => hQ h'' ?_ fun q hq => ?_⟩
  · refine Fr.change (d := C) ⟨hn₂, fun b o e => (hs₂.2 b ?_).trans (F.keep b o e), F.above⟩ hs'' hC.2.1 hC.2.2
    exact Nat.ne_of_lt (Nat.lt_of_lt_of_le (Heap.lt_size e) F.above)
  · have z := N q (.tail _ hq)
    refine ⟨(hs''.2 q.1 ?_).trans ((hs₂.2 q.1 z.2.1).trans z.1), z.2⟩
    rcases List.mem_cons.mp hq with rfl | hq
    · exact Nat.ne_of_lt lD
    · exact Nat.ne_of_lt (Nat.lt_trans (l q hq) lD)
end
end Mine
end

-- FO
section
open PySem PySem.W PySem.Calls PyProof.Rows
set_option maxRecDepth 100000
set_option exponentiation.threshold 3000
namespace Mine
theorem sixth_le {n N : Nat} (h : (n : Int) * n * n - n = 6 * N) (h3 : 3 ≤ n) (h66 : n ≤ 66) : 0 < N ∧ N ≤ 2 ^ 20 := by
  have a : n * n * n ≤ 66 * 66 * 66 := Nat.mul_le_mul (Nat.mul_le_mul h66 h66) h66
  have b : 3 * 3 * n ≤ n * n * n := Nat.mul_le_mul_right _ (Nat.mul_le_mul h3 h3)
  have e : ((n * n * n : Nat) : Int) - n = 6 * N := by push_cast; exact h
  generalize n * n * n = M at *
  lia
theorem sixth_is {n N : Nat} (h : (n : Int) * n * n - n = 6 * N) : (((n : Int) ^ Int.toNat 3) - n).fdiv 6 = N := by
  have e : (n : Int) ^ Int.toNat 3 = n * n * n := by
    show (n : Int) ^ 3 = _
    rw [Int.pow_succ, Int.pow_succ, Int.pow_succ, Int.pow_zero, Int.one_mul]
  rw [e, h, Int.mul_fdiv_cancel_left _ (by decide)]
theorem int_same {A : Around} {s : Shared} (a : Int) (t u : Tok) : PySem.SeqAt.EqAt A s (.int a t) (.int a u) true := by
  have := PySem.SeqAt.EqAt.int_int (A := A) (s := s) a t a u
  simpa using this
theorem ints_are : ∀ fl : List (Int × Tok), IntsAre (fl.map intV) (fl.map (·.1))
  | [] => .nil
  | z :: r => .cons _ _ (ints_are r)
theorem found_at {fl : List (Int × Tok)} {n j : Nat} {g : Nat → Int} {b : Value} (h : fl.map (·.1) = (List.range n).map g) (hb : (fl.map intV)[j]? = some b) : ∃ t, b = .int (g j) t := by
  rw [List.getElem?_map, Option.map_eq_some_iff] at hb
  obtain ⟨z, hz, rfl⟩ := hb
  have e : (fl.map (·.1))[j]? = ((List.range n).map g)[j]? := by rw [h]
  have hj : j < n := by
    have l := congrArg List.length h
    simp at l
    have := (List.getElem?_eq_some_iff.mp hz).1
    lia
  rw [List.getElem?_map, hz, List.getElem?_map, List.getElem?_range hj] at e
  exact ⟨z.2, by rw [← Option.some.inj e]⟩
theorem min_found {fl : List (Int × Tok)} {n : Nat} {ρ : Nat → Nat} {M : Int} (P : Perm n ρ) (h0 : 0 < n) (h : fl.map (·.1) = (List.range n).map (fun i => 2 * (ρ i : Int) - 2 * ρ 0)) (hM : M ∈ fl.map (·.1)) (hl : ∀ a, a ∈ fl.map (·.1) → M ≤ a) : M = - (2 * (ρ 0 : Int)) := by
  rw [h] at hM hl
  obtain ⟨i, hi, e⟩ := List.mem_map.mp hM
  obtain ⟨j, hj, e2⟩ := P.zero 0 h0
  have := hl _ (List.mem_map.mpr ⟨j, List.mem_range.mpr hj, rfl⟩)
  rw [e2] at this
  lia
/-- what the loop over the questions keeps -/
structure FJ (fd lh D Lx : Addr) (N : Nat) (W0 : Int) (vs : List Value) (ch : Nat) (zs : List (Int × Tok)) (cD hi : Nat) (o1 o2 : Obj) (ρ : Nat → Nat) (k : Nat) (m : Str → Option Value) (W : List (Addr × Obj)) (tk : Nat) : Prop where
  sixth : ∃ t, m "sixth" = some (.int N t)
  first : ∃ t, m "first" = some (.int W0 t)
  places : m "places" = some (.ref D)
  led : ∃ (fl : List (Int × Tok)) (cf : Nat), fl.map (·.1) = (List.range (k + 1)).map (fun i => 2 * (ρ i : Int) - 2 * ρ 0) ∧ W = [(fd, listOf (fl.map intV).toArray cf), (lh, listOf vs.toArray ch), (D, listOf (zs.map intV).toArray cD), (Lx + 1 + 1, o1), (Lx + 1, o2)]
  tok : hi ≤ tk
theorem lift_int {fl : List (Int × Tok)} {e : Int} {t : Tok} : fl.map intV ++ [Value.int e t] = (fl ++ [(e, t)]).map intV := by rw [List.map_append]; rfl
theorem tok_a {h t tt : Nat} (a : h ≤ t) (b : tt = t + 1) : h ≤ tt + 1 + 1 + 1 + 1 := by lia
theorem tok_b {t tt : Nat} (b : tt = t + 1) : t < tt + 1 + 1 + 1 + 1 := by lia
theorem len_a {n k : Nat} (a : k + 1 < n) (b : n ≤ 66) : k + 1 ≤ 100 := by lia
theorem last_found {fl : List (Int × Tok)} {k : Nat} {g : Nat → Int} (h : fl.map (·.1) = (List.range (k + 1)).map g) : fl.length = k + 1 ∧ ∃ tz, (fl.map intV)[(fl.map intV).length - 1]? = some (.int (g k) tz) := by
  have len : fl.length = k + 1 := by simpa using congrArg List.length h
  have e : (fl.map (·.1))[k]? = ((List.range (k + 1)).map g)[k]? := by rw [h]
  have hk : k < fl.length := by lia
  rw [List.getElem?_map, List.getElem?_map, List.getElem?_eq_getElem hk, List.getElem?_range (by lia)] at e
  refine ⟨len, fl[k].2, ?_⟩
  rw [List.length_map, len, Nat.add_sub_cancel, List.getElem?_map, List.getElem?_eq_getElem hk, ← Option.some.inj e]
  rfl
theorem off5 {a b c d e x : Addr} {oa ob oc od oe : Obj} (h1 : @Ne Nat a x) (h2 : @Ne Nat b x) (h3 : @Ne Nat c x) (h4 : @Ne Nat d x) (h5 : @Ne Nat e x) : ∀ q ∈ [(a, oa), (b, ob), (c, oc), (d, od), (e, oe)], q.1 ≠ x := by
  intro q hq
  simp only [List.mem_cons, List.not_mem_nil, or_false] at hq
  rcases hq with rfl | rfl | rfl | rfl | rfl <;> assumption
theorem off4 {a b c d x : Addr} {oa ob oc od : Obj} (h1 : @Ne Nat a x) (h2 : @Ne Nat b x) (h3 : @Ne Nat c x) (h4 : @Ne Nat d x) : ∀ q ∈ [(a, oa), (b, ob), (c, oc), (d, od)], q.1 ≠ x := by
  intro q hq
  simp only [List.mem_cons, List.not_mem_nil, or_false] at hq
  rcases hq with rfl | rfl | rfl | rfl <;> assumption
theorem pair2 {a b : Addr} {oa ob : Obj} {W : List (Addr × Obj)} (h1 : ∀ q ∈ W, q.1 ≠ a) (h2 : ∀ q ∈ W, q.1 ≠ b) : ∀ q ∈ W, ∀ r ∈ [(a, oa), (b, ob)], q.1 ≠ r.1 := by
  intro q hq r hr
  simp only [List.mem_cons, List.not_mem_nil, or_false] at hr
  rcases hr with rfl | rfl
  · exact h1 q hq
  · exact h2 q hq
local macro_rules | `(tactic| walk_at "compareOp Eq ref ref") => `(tactic| refine hold ?_)
local macro_rules | `(tactic| walk_at "subscriptTail Name Slice ref ref") => `(tactic| refine hold ?_)
local macro_rules | `(tactic| walk_at "call builtin:min") => `(tactic| refine hold ?_)
local macro_rules | `(tactic| walk_at "subscriptTail Name UnaryOp ref int") => `(tactic| refine hold ?_)
local macro_rules | `(tactic| walk_at "binaryOp Add ref ref") => `(tactic| refine hold ?_)
local macro_rules | `(tactic| walk_at "call builtin:list.append") => `(tactic| refine hold ?_)
local macro_rules | `(tactic| walk_at "eval ListComp") => `(tactic| refine hold ?_)
local macro_rules | `(tactic| walk_at "exec Assign cons ListComp") => `(tactic| refine hold ?_)
section
variable {w : World} {base : Heap}
set_option maxHeartbeats 8000000 in
theorem found_t {lh : Addr} {vs : List Value} {ch N : Nat} {ρ : Nat → Nat} (Rv : Ranked w base vs ρ) (LE : Less w base vs ρ) (h2 : 3 ≤ vs.length) (h66 : vs.length ≤ 66) (hNN : (vs.length : Int) * vs.length * vs.length - vs.length = 6 * N) :
    DoesA w 90 base 317 ⟨[.ref lh], []⟩ [(lh, listOf vs.toArray ch)] (fun r V' => r = some (.bool true) ∧ V' = [(lh, listOf vs.toArray ch)]) := by
  intro p loose mean mg mb dp un gd outer g s R S V hd hu hq he
  obtain ⟨B, X, T, XB, TB, KD⟩ := S
  k_lift B
  revert X; unfold PG; k_fill; intro X
  (refine' enterC ?zSz ?zXz ?zTz ?zk6z ?zk7z ?zk8z ?zk9z ?zkBz ?zkDz ?_ ?zc2z ?zc3z ?zc4z; (case zSz => assumption); (case zXz => assumption); (case zTz => assumption); (case zk6z => k_is); (case zk7z => k_is); (case zk8z => k_room); (case zk9z => first | exact BindsTo.of_eq rfl | exact binds_K (by k_in) rfl (by k_is) rfl rfl rfl | (refine' kp_binds ?zkxz ?zkez; (case zkxz => exact Frag.In.keeps (by assumption) (fun b o e => Sits.keep (by assumption) b o e)); (case zkez => exact fun _ => rfl))); (case zkBz => exact rfl); (case zkDz => decide +kernel); (case zc2z => exact rfl); (case zc3z => exact rfl); (case zc4z => exact rfl); k_whole; intro L' h' tk' cells' F' N' Y' l1; (try k_lt l1); k_cells Y'; (try simp only [List.cons_append, List.nil_append] at N'); (try dsimp only); (try k_fold))
  (repeat' (first | (k_unfold; (try dsimp only)) | (k_end; kc_close) | (with_reducible ((with_reducible show wpAny _ _ (call (Value.builtin "len") _ _) _ _ _); (k_here; first | ((with_reducible show wpAny _ _ (call (Value.builtin "len") [Value.ref _]) _ _ _); k_dflt (refine' len_made ?zNz ?zmz ?znz ?zhz ?_; (case zNz => k_asm); (case zmz => k_mem); (case znz => first | assumption | exact rfl); (case zhz => assumption)); (intro t' tk' tl'; (try k_sweep))) | refine hold ?_))) | (with_reducible ((k_here; (with_reducible refine wpAny_execs_cons ?_); (try dsimp only); k_fold))) | (with_reducible ((k_here; (with_reducible show wpAny _ _ (call (Value.type "list") [Value.ref _]) _ _ _); k_dflt (refine' list_rng rfl ?zFz ?zNz ?zmz ?zhz ?_; (case zFz => k_asm); (case zNz => k_asm); (case zmz => k_mem); (case zhz => assumption)); (intro D h' tkD zs cD lo F' N' lD tl1' hlo cnt; (try k_lt lD); (try k_sweep))))) | (with_reducible ((k_here; first | ((with_reducible show wpAny _ _ (call (Value.type "range") [_]) _ _ _); k_dflt (refine' range1_led ?zFz ?zNz ?_; (case zFz => k_asm); (case zNz => k_asm)); (intro r h' tk' t1' t2' t3' F' N' lr tl'; (try k_lt lr); (try k_sweep))) | ((with_reducible show wpAny _ _ (call (Value.type "range") [_, _]) _ _ _); k_dflt (refine' range2_led ?zFz ?zNz ?_; (case zFz => k_asm); (case zNz => k_asm)); (intro r h' tk' t1' t2' t3' F' N' lr tl'; (try k_lt lr); (try k_sweep)))))) | (with_reducible (((first | (with_reducible show wpAny _ _ (call (Value.ref 278) _ _) _ _ _) | (with_reducible show wpAny _ _ (call (Value.ref 285) _ _) _ _ _) | (with_reducible show wpAny _ _ (call (Value.ref 291) _ _) _ _ _) | (with_reducible show wpAny _ _ (call (Value.ref 298) _ _) _ _ _) | (with_reducible show wpAny _ _ (call (Value.ref 305) _ _) _ _ _) | (with_reducible show wpAny _ _ (call (Value.ref 312) _ _) _ _ _) | (with_reducible show wpAny _ _ (call (Value.ref 317) _ _) _ _ _)); refine hold ?_))) | walk1 | (dsimp only; walk1) | (leave1; (try dsimp only))))
  rename_i oc1 oc2 d1 d2 _ _ _ _ _ _ _ _ _ _ _ _ FF NN
  rw [sixth_is hNN] at FF
  rw [sixth_is hNN]
  obtain ⟨hN, hNb⟩ := sixth_le hNN h2 h66
  have P := Rv.perm
  have lo0 : 0 < lo := by lia
  have sqq := sp_self (perm_id vs.length) hNN
  have svv := sp_self P hNN
  have sqv := sp_first P hNN
  rw [sp_comm] at sqv
  have hW0 := sp_le (perm_id vs.length) P hNN sqv
  refine ⟨?_⟩
  refine' use_doesE (V := [(_, _), (_, _)]) (W := [(L' + 1 + 1, oc1), (L' + 1, oc2)]) (asked_t (W := (N : Int) - 2 * wrong vs.length ρ) (cnt.ranked lo0) Rv (by rw [List.length_map]; exact cnt.len) rfl (by lia) h66 (Nat.ne_of_gt (by lia)) sqq svv sqv hN hNb hW0) ?B1 ?F1 ?X1 ?N1 ?T1 ?XB1 ?TB1 ?D1 ?A1 ?hf1 ?ck1 ?hV1 ?hW1 ?hN1 ?hd1 ?hu1 ?hP01 ?_
  case F1 => k_asm
  case B1 => assumption
  case X1 => assumption
  case N1 => k_asm
  case T1 => assumption
  case XB1 => assumption
  case TB1 => assumption
  case D1 => assumption
  case A1 => exact rfl
  case hf1 => exact rfl
  case ck1 => exact rfl
  case hV1 => kcj_all
  case hW1 => kcj_all
  case hN1 => 
      (repeat' (first | exact List.forall_mem_nil _ | refine List.forall_mem_cons.mpr ⟨?_, ?_⟩)) <;> (dsimp only; first | assumption | (apply Nat.ne_of_lt; lia) | (apply Nat.ne_of_gt; lia))
  case hd1 => k_room
  case hu1 => k_units
  case hP01 => exact fun V' ⟨_, h, _⟩ => by cases h
  clear B X T KD
  intro h₁ h₂ tk₁ v V' hP tl T₂ F' N' nW B' X' T' D'
  obtain ⟨t1, hv, hV'⟩ := hP
  cases hv
  subst hV'
  dsimp only [List.nil_append, List.cons_append] at N'
  (repeat' (first | (k_unfold; (try dsimp only)) | (k_end; kc_close) | (with_reducible ((k_here; (with_reducible refine wpAny_execs_cons ?_); (try dsimp only); k_fold))) | (with_reducible (((first | (with_reducible show wpAny _ _ (call (Value.ref 278) _ _) _ _ _) | (with_reducible show wpAny _ _ (call (Value.ref 285) _ _) _ _ _) | (with_reducible show wpAny _ _ (call (Value.ref 291) _ _) _ _ _) | (with_reducible show wpAny _ _ (call (Value.ref 298) _ _) _ _ _) | (with_reducible show wpAny _ _ (call (Value.ref 305) _ _) _ _ _) | (with_reducible show wpAny _ _ (call (Value.ref 312) _ _) _ _ _) | (with_reducible show wpAny _ _ (call (Value.ref 317) _ _) _ _ _)); refine hold ?_))) | walk1 | (dsimp only; walk1) | (leave1; (try dsimp only))))
  refine ⟨?_⟩
  refine' use_doesE (V := [(lh, listOf vs.toArray ch)]) (W := [(D, listOf (zs.map intV).toArray cD), (L' + 1 + 1, oc1), (L' + 1, oc2)]) (wrong_t LE (by lia) h66) ?B2 ?F2 ?X2 ?N2 ?T2 ?XB2 ?TB2 ?D2 ?A2 ?hf2 ?ck2 ?hV2 ?hW2 ?hN2 ?hd2 ?hu2 ?hP02 ?_
  case F2 => k_asm
  case B2 => assumption
  case X2 => assumption
  case N2 => k_asm
  case T2 => assumption
  case XB2 => assumption
  case TB2 => assumption
  case D2 => assumption
  case A2 => exact rfl
  case hf2 => exact rfl
  case ck2 => exact rfl
  case hV2 => kcj_all
  case hW2 => kcj_all
  case hN2 => 
      (repeat' (first | exact List.forall_mem_nil _ | refine List.forall_mem_cons.mpr ⟨?_, ?_⟩)) <;> (dsimp only; first | assumption | (apply Nat.ne_of_lt; lia) | (apply Nat.ne_of_gt; lia))
  case hd2 => k_room
  case hu2 => k_units
  case hP02 => exact fun V' ⟨_, h, _⟩ => by cases h
  clear B' X' T' D'
  intro h₃ h₄ tk₂ v V' hP tl2 T₃ F' N' nW2 B' X' T' D'
  obtain ⟨t2, hv, hV'⟩ := hP
  cases hv
  subst hV'
  dsimp only [List.nil_append, List.cons_append] at N'
  (repeat' (first | (k_unfold; (try dsimp only)) | (k_end; kc_close) | (with_reducible (with_reducible refine ne_self ?_)) | (with_reducible ((with_reducible show wpAny _ _ (binaryOp Operator.Mult (Value.int _ _) (Value.int _ _)) _ _ _); (k_here; refine mul_small (by first | exact .inl ⟨by decide, by decide⟩ | exact .inr ⟨by lia, by lia⟩ | exact .inl ⟨by lia, by lia⟩) ?_))) | (with_reducible ((k_here; with_reducible refine wpAny_execs_nil ?_))) | (with_reducible ((k_here; (with_reducible refine wpAny_execs_cons ?_); (try dsimp only); k_fold))) | walk1 | (dsimp only; walk1) | (leave1; (try dsimp only))))
  rename_i lF _ _ _ oF FF2 NN2 dF
  refine ⟨wpAny_For ?_⟩
  (repeat' (first | (k_unfold; (try dsimp only)) | (k_end; kc_close) | (with_reducible ((k_here; first | ((with_reducible show wpAny _ _ (call (Value.type "range") [_]) _ _ _); k_dflt (refine' range1_led ?zFz ?zNz ?_; (case zFz => k_asm); (case zNz => k_asm)); (intro r h' tk' t1' t2' t3' F' N' lr tl'; (try k_lt lr); (try k_sweep))) | ((with_reducible show wpAny _ _ (call (Value.type "range") [_, _]) _ _ _); k_dflt (refine' range2_led ?zFz ?zNz ?_; (case zFz => k_asm); (case zNz => k_asm)); (intro r h' tk' t1' t2' t3' F' N' lr tl'; (try k_lt lr); (try k_sweep)))))) | walk1 | (dsimp only; walk1) | (leave1; (try dsimp only))))
  refine' pyIter_rng (by k_asm) (by k_asm) (.head _) (by lia) (by lia) (by lia) ?_
  intro I h₅ F5 N5 l5
  rw [show (vs.length : Int) - 1 = ((vs.length - 1 : Nat) : Int) - ((0 : Nat) : Int) by lia] at N5
  refine' for_rng (hh := h₃) (base := base) (outer := outer) (A₀ := kAt dp un gd outer) (n := vs.length - 1) (x := 1) (J := FJ lF lh D L' N ((N : Int) - 2 * wrong vs.length ρ) vs ch zs cD tkD oF oc2 ρ) (W := [(lF, listOf #[Value.int 0 (tk₂ + 1 + 1)] 0), (lh, listOf vs.toArray ch), (D, listOf (zs.map intV).toArray cD), (L' + 1 + 1, oF), (L' + 1, oc2)]) rfl ?turn ?fin ?hJ ?hW ?hF
  case hF => exact ⟨.refl, F5, fun q hq => N5 q (by
    rcases List.mem_cons.mp hq with rfl | hq
    · exact .head _
    · exact .tail _ (.tail _ hq)), (by assumption), (by assumption), (by assumption), (by assumption), (by assumption), (by assumption)⟩
  case hW => exact fun q hq => Nat.ne_of_lt (l5 q (.tail _ hq))
  case hJ =>
    refine ⟨⟨_, rfl⟩, ⟨_, rfl⟩, rfl, ⟨[(0, tk₂ + 1 + 1)], 0, by simp, rfl⟩, ?_⟩
    dsimp only at *
    lia
  case fin =>
    (repeat (rename Fr _ _ _ _ => zz; clear zz))
    (repeat (rename News _ _ _ _ => zz; clear zz))
    clear B' X' T' D' l5
    intro m W h₆ s₃ hJ FF' hs
    obtain ⟨⟨ts', hsx⟩, ⟨tf, hfi⟩, hpl, ⟨fl, cf, hfl, rfl⟩, htk⟩ := hJ
    obtain ⟨T0, F, N', B, X, T, _, _, D'⟩ := FF'
    refine st_elim (s := s) (s₃ := s₃) hs fun hh tt e₃ => ?_
    clear hs; subst e₃
    (repeat' (first | (k_unfold; (try dsimp only)) | (k_end; kc_close) | (with_reducible ((k_here; (with_reducible refine wpAny_execs_cons ?_); (try dsimp only); k_fold))) | walk1 | (dsimp only; walk1) | (leave1; (try dsimp only))))
    refine ⟨?_⟩
    refine comp_assign (ax := lh) (by with_unfolding_all rfl) (by with_unfolding_all rfl) rfl (by decide) ?hi ?_
    case hi =>
      intro Q' hQ'
      k_steps
      exact hQ'
    refine block_cell (vs := vs) (c := ch) (g := fun k y => ∃ t, y = .int (ρ k : Int) t) (RR := fun acc C => compPost (model PG w) _ _ _ _ acc C) ?bA F N' ?bm h66 rfl (fun _ => rfl) (fun _ => rfl) ?bx ?bt ?bf
    case bA => rfl
    case bm => k_mem
    case bx => rfl
    case bt =>
      intro k v I C Cc Db hb tb oc ys Q' E' hv hoc Fb Nb lq l1 l2 l3 hQ
      clear F N'
      k_steps
      refine ⟨?_⟩
      refine comp_eval (ax := lh) (by with_unfolding_all rfl) rfl (by decide) ?hi2 ?_
      case hi2 =>
        intro Q2 hQ2
        k_steps
        exact hQ2
      refine block_loc (vs := vs) (c := ch) (J := fun j zs => (zs.length : Int) = sumN j (fun i => if ρ i < ρ k then 1 else 0)) (RR := fun acc C => compPost (model PG w) _ _ _ _ acc C) rfl Fb Nb (by k_mem) h66 rfl (by decide) rfl rfl ?bt2 ?bf2
      case bt2 =>
        intro j b I2 C2 D2 h2' t2' oC2 m2 zs2 Q2 E2 R2 hj hb2 hJ2 hns hm2 F2 N2 l20 l21 l22 hy hn
        clear Fb Nb
        have hkl : k < vs.length := (List.getElem?_eq_some_iff.mp hv).1
        have eb : b = vs.getD j .none := by simp [List.getD, hb2]
        have ev : v = vs.getD k .none := by simp [List.getD, hv]
        refine wpAny_tests_one ?_
        k_steps
        rw [eb, ev]
        refine less_use LE hj hkl (stays_of (by assumption) F2) (by k_room) (by k_units) ?_
        by_cases hlt : ρ j < ρ k
        · rw [decide_eq_true hlt]
          k_steps
          refine hy _ _ _ ?_ F2 N2
          show ((zs2 ++ [_]).length : Int) = sumN j _ + (if ρ j < ρ k then 1 else 0)
          rw [List.length_append, ← hJ2, if_pos hlt]
          rfl
        · rw [decide_eq_false hlt]
          k_steps
          refine hn _ _ ?_ F2 N2
          show (zs2.length : Int) = sumN j _ + (if ρ j < ρ k then 1 else 0)
          rw [← hJ2, if_neg hlt]
          lia
      case bf2 =>
        intro D2 C2 h2' t2' zs2 oC2 mC2 hJ2 F2 N2 hn2 l20 l21
        refine comp_end F2 N2 hn2 l20 l21 fun h3' F3 N3 => ?_
        clear Fb Nb F2 N2
        have hkl : k < vs.length := (List.getElem?_eq_some_iff.mp hv).1
        rw [P.count k hkl] at hJ2
        have hz : zs2.length = ρ k := by lia
        have hkb := P.below k hkl
        (repeat' (first | (k_unfold; (try dsimp only)) | (k_end; kc_close) | (with_reducible ((with_reducible show wpAny _ _ (call (Value.builtin "len") _ _) _ _ _); (k_here; first | ((with_reducible show wpAny _ _ (call (Value.builtin "len") [Value.ref _]) _ _ _); k_dflt (refine' len_made ?zNz ?zmz ?znz ?zhz ?_; (case zNz => k_asm); (case zmz => k_mem); (case znz => first | assumption | exact rfl); (case zhz => assumption)); (intro t' tk' tl'; (try k_sweep))) | refine hold ?_))) | walk1 | (dsimp only; walk1) | (leave1; (try dsimp only))))
        refine ⟨?_⟩
        refine len_made (n := ρ k) N3 (.head _) hz (by lia) fun t9 tk9 _ => ?_
        exact hQ _ _ _ ⟨_, rfl⟩ F3 fun q hq => N3 q (.tail _ hq)
    case bf =>
      intro Db Cb hb tb ys oCb mCb hyl hyg Fb Nb hnb lb lD
      clear F N'
      refine comp_end_as Fb Nb hnb lb lD rfl rfl rfl fun h7 F7 N7 => ?_
      clear Fb Nb
      (repeat' (first | (k_unfold; (try dsimp only)) | (k_end; kc_close) | (with_reducible ((k_here; (with_reducible refine wpAny_execs_cons ?_); (try dsimp only); k_fold))) | walk1 | (dsimp only; walk1) | (leave1; (try dsimp only))))
      refine ⟨?_⟩
      refine comp_eval (ax := lF) (by with_unfolding_all rfl) rfl (by decide) ?hi3 ?_
      case hi3 =>
        intro Q2 hQ2
        k_steps
        exact hQ2
      have hfl1 : fl.length = vs.length := by
        have := congrArg List.length hfl
        simp at this
        lia
      refine block_loc (vs := fl.map intV) (c := cf) (J := fun j zs => ∃ gl : List (Int × Tok), zs = gl.map intV ∧ gl.map (·.1) = (List.range j).map (fun i => 2 * (ρ i : Int))) (RR := fun acc C => compPost (model PG w) _ _ _ _ acc C) rfl F7 N7 (by k_mem) (by rw [List.length_map, hfl1]; exact h66) rfl (by decide) rfl ⟨[], rfl, rfl⟩ ?bt3 ?bf3
      case bt3 =>
        intro j b I2 C2 D2 h2' t2' oC2 m2 zs2 Q2 E2 R2 hj hb2 hJ2 hns hm2 F2 N2 l20 l21 l22 hy hn
        clear F7 N7
        refine wpAny_tests_nil ?_
        simp only [if_true]
        k_steps
        have hz0 : vs.length - 1 + 1 = vs.length := by lia
        rw [hz0] at hfl
        obtain ⟨tb3, rfl⟩ := found_at hfl hb2
        refine ⟨?_⟩
        refine min_list_N (vs := fl.map intV) (ns := fl.map (·.1)) rfl F2 N2 (N2.isList (by k_mem)) (ints_are fl) (by rw [List.length_map, hfl1]; lia) fun h8 M t8 tk8 F8 N8 hM hMl => ?_
        have eM := min_found P (by lia) hfl hM hMl
        subst eM
        k_steps
        obtain ⟨gl, rfl, hgl⟩ := hJ2
        refine hy _ _ _ ⟨gl ++ [(_, _)], lift_int, ?_⟩ F8 N8
        rw [List.map_append, hgl, List.range_succ, List.map_append]
        simp
      case bf3 =>
        intro D2 C2 h2' t2' zs2 oC2 mC2 hJ2 F2 N2 hn2 l20 l21
        obtain ⟨gl, rfl, hgl⟩ := hJ2
        refine comp_end F2 N2 hn2 l20 l21 fun h3' F3 N3 => ?_
        clear F7 N7 F2 N2
        k_steps
        refine ⟨?_⟩
        refine comp_eval (ax := Db) (by with_unfolding_all rfl) rfl (by decide) ?hi4 ?_
        case hi4 =>
          intro Q2 hQ2
          k_steps
          exact hQ2
        refine block_loc (vs := ys) (c := ys.length) (J := fun j zs => ∃ gl : List (Int × Tok), zs = gl.map intV ∧ gl.map (·.1) = (List.range j).map (fun i => 2 * (ρ i : Int))) (RR := fun acc C => compPost (model PG w) _ _ _ _ acc C) rfl F3 N3 (by k_mem) (by rw [hyl]; exact h66) rfl (by decide) rfl ⟨[], rfl, rfl⟩ ?bt4 ?bf4
        case bt4 =>
          intro j b I4 C4 D4 h4' t4' oC4 m4 zs4 Q4 E4 R4 hj hb4 hJ4 hns hm4 F4 N4 l40 l41 l42 hy hn
          clear F3 N3
          obtain ⟨tb4, rfl⟩ := hyg j b hb4
          refine wpAny_tests_nil ?_
          simp only [if_true]
          (repeat' (first | (k_unfold; (try dsimp only)) | (k_end; kc_close) | (with_reducible ((with_reducible show wpAny _ _ (binaryOp Operator.Mult (Value.int _ _) (Value.int _ _)) _ _ _); (k_here; refine mul_small (by first | exact .inl ⟨by decide, by decide⟩ | exact .inr ⟨by lia, by lia⟩ | exact .inl ⟨by lia, by lia⟩) ?_))) | walk1 | (dsimp only; walk1) | (leave1; (try dsimp only))))
          obtain ⟨gl4, rfl, hgl4⟩ := hJ4
          refine hy _ _ _ ⟨gl4 ++ [(_, _)], lift_int, ?_⟩ F4 N4
          rw [List.map_append, hgl4, List.range_succ, List.map_append]
          simp
        case bf4 =>
          intro D4 C4 h4' t4' zs4 oC4 mC4 hJ4 F4 N4 hn4 l40 l41
          obtain ⟨gl2, rfl, hgl2⟩ := hJ4
          refine comp_end F4 N4 hn4 l40 l41 fun h5' F5 N5 => ?_
          clear F3 N3 F4 N4
          k_steps
          refine ⟨?_⟩
          have n1 : gl.length = vs.length := by
            have := congrArg List.length hgl
            simp at this
            lia
          have n2 : gl2.length = vs.length := by
            have := congrArg List.length hgl2
            simp at this
            lia
          refine PySem.SeqAt.eq_listAt (items := (gl.map intV).toArray) (items2 := (gl2.map intV).toArray) (e := fun _ => true) (N5.isList (.tail _ (.head _))) (N5.isList (.head _)) (by simp [n1, n2]) (by k_units) (fun j h1 h2 => ?_) ?_
          · obtain ⟨t1, e1⟩ := found_at (j := j) (b := (gl.map intV).toArray[j]) hgl (by rw [List.getElem_toArray]; exact List.getElem?_eq_getElem _)
            obtain ⟨t2, e2⟩ := found_at (j := j) (b := (gl2.map intV).toArray[j]) hgl2 (by rw [List.getElem_toArray]; exact List.getElem?_eq_getElem _)
            rw [e1, e2]
            exact int_same _ _ _
          · rw [show ((List.range (gl.map intV).toArray.size).all fun _ => true) = true by simp]
            k_steps
            refine hq h₆ _ _ _ _ ⟨rfl, rfl⟩ (T₂.trans (T₃.trans T0)) (Sits.of_fr F5 ?_)
            exact List.forall_mem_cons.mpr ⟨N5 _ (by k_mem), fun _ h => nomatch h⟩
  case turn =>
    (repeat (rename Fr _ _ _ _ => zz; clear zz))
    (repeat (rename News _ _ _ _ => zz; clear zz))
    clear B' X' T' D' T₂ T₃ l5
    intro k m W s₃ h₆ t hk ht hJ hWn FF' hs
    obtain ⟨⟨ts', hsx⟩, ⟨tf, hfi⟩, hpl, ⟨fl, cf, hfl, rfl⟩, htk⟩ := hJ
    obtain ⟨T0, F, N', B, X, T, _, _, D'⟩ := FF'
    rw [patch hsx, patch hfi, patch hpl] at F
    refine st_elim (s := s) (s₃ := s₃) hs fun hh tt e₃ => ?_
    clear hs; subst e₃
    (repeat' (first | (k_unfold; (try dsimp only)) | (k_end; kc_close) | (with_reducible ((k_here; (with_reducible refine wpAny_execs_cons ?_); (try dsimp only); k_fold))) | walk1 | (dsimp only; walk1) | (leave1; (try dsimp only))))
    refine ⟨?_⟩
    refine' slice_led (vs := zs.map intV) (x := 0) (y := k) (by k_asm) (by k_asm) (by k_mem) rfl .none (.int _ _) ?hb ?h66 ?_
    case hb => rw [show ((1 : Int) + (k : Int) - 1) = ((k : Nat) : Int) by lia]; exact cut_to (by rw [List.length_map, cnt.len]; lia)
    case h66 => rw [List.length_map, cnt.len]; exact h66
    intro Da ha Fa Na la
    k_steps
    refine ⟨?_⟩
    refine' add_led (xs := ((zs.map intV).drop 0).take (k - 0)) (by k_asm) (by k_asm) (by k_mem) (by k_mem) (by simp only [List.length_drop, List.length_take, List.length_map, List.length_cons, List.length_nil, cnt.len]; lia) ?_
    intro Db hb Fb Nb lb
    k_steps
    refine ⟨?_⟩
    refine' slice_led (vs := zs.map intV) (x := k + 2) (y := vs.length) (by k_asm) (by k_asm) (by k_mem) rfl (.int _ _) .none ?hb2 ?h662 ?_
    case hb2 => rw [show ((1 : Int) + (k : Int) + 1) = ((k + 2 : Nat) : Int) by lia, List.length_map, cnt.len]; exact cut_from (by lia)
    case h662 => rw [List.length_map, cnt.len]; exact h66
    intro Dc hc Fc Nc lc
    k_steps
    refine ⟨?_⟩
    refine' add_led (by k_asm) (by k_asm) (by k_mem) (by k_mem) (by simp only [List.length_drop, List.length_take, List.length_append, List.length_map, List.length_cons, List.length_nil, cnt.len]; lia) ?_
    intro Dd gD Fd Nd ld
    have eQ : ((zs.map intV).drop 0).take (k - 0) ++ [Value.int (1 + (k : Int)) t, Value.int (1 + (k : Int) - 1) (tt + 1 + 1 + 1 + 1)] ++ ((zs.map intV).drop (k + 2)).take (vs.length - (k + 2)) = (swapd zs (k + 1) t (tt + 1 + 1 + 1 + 1)).map intV := by
      rw [List.take_of_length_le (l := (zs.map intV).drop (k + 2)) (by rw [List.length_drop, List.length_map, cnt.len]; exact Nat.le_refl _)]
      unfold swapd intV
      rw [show (1 + (k : Int) - 1) = ((k + 1 - 1 : Nat) : Int) by lia, show (1 + (k : Int)) = ((k + 1 : Nat) : Int) by lia]
      simp
    rw [eQ] at Nd
    have hkn : k + 1 < vs.length := by lia
    have ht' : tt = t + 1 := ht
    have hIl : @Ne Nat lh I := hWn (lh, _) (.tail _ (.head _))
    have hIf : @Ne Nat lF I := hWn (lF, _) (.head _)
    have Cs := cnt.swapped (w := w) (b := base) (k := k + 1) (t := t) (u := tt + 1 + 1 + 1 + 1) lo0 (Nat.le_add_left 1 k) hkn htk (tok_a htk ht') (Nat.ne_of_lt (tok_b ht'))
    have Pk := perm_swp (n := vs.length) (k := k + 1) (Nat.le_add_left 1 k) hkn
    have sqk := sp_self Pk hNN
    have sqw := sp_swp P hNN (k := k + 1) (Nat.le_add_left 1 k) hkn
    rw [sp_comm] at sqw
    have hWk := sp_le Pk P hNN sqw
    have ldl : @LT.lt Nat _ lh Dd := ld (lh, listOf vs.toArray ch) (by k_mem)
    have ldf : @LT.lt Nat _ lF Dd := ld (lF, listOf (fl.map intV).toArray cf) (by k_mem)
    have ldI : @LT.lt Nat _ I Dd := ld (I, rngObj (1 + ((k + 1 : Nat) : Int)) (((vs.length - 1 : Nat) : Int) - ((k + 1 : Nat) : Int)) 1) (by k_mem)
    have ldD : @LT.lt Nat _ D Dd := ld (D, listOf (zs.map intV).toArray cD) (by k_mem)
    have ld1 : @LT.lt Nat _ (L' + 1 + 1) Dd := ld (L' + 1 + 1, oF) (by k_mem)
    have ld2 : @LT.lt Nat _ (L' + 1) Dd := ld (L' + 1, oc2) (by k_mem)
    clear ld lc lb la
    (repeat' (first | (k_unfold; (try dsimp only)) | (k_end; kc_close) | (with_reducible (((first | (with_reducible show wpAny _ _ (call (Value.ref 278) _ _) _ _ _) | (with_reducible show wpAny _ _ (call (Value.ref 285) _ _) _ _ _) | (with_reducible show wpAny _ _ (call (Value.ref 291) _ _) _ _ _) | (with_reducible show wpAny _ _ (call (Value.ref 298) _ _) _ _ _) | (with_reducible show wpAny _ _ (call (Value.ref 305) _ _) _ _ _) | (with_reducible show wpAny _ _ (call (Value.ref 312) _ _) _ _ _) | (with_reducible show wpAny _ _ (call (Value.ref 317) _ _) _ _ _)); refine hold ?_))) | walk1 | (dsimp only; walk1) | (leave1; (try dsimp only))))
    refine ⟨?_⟩
    refine' use_doesE (V := [(_, _), (_, _)]) (W := [(lF, listOf (fl.map intV).toArray cf), (D, listOf (zs.map intV).toArray cD), (L' + 1 + 1, oF), (L' + 1, oc2), (I, rngObj (1 + ((k + 1 : Nat) : Int)) (((vs.length - 1 : Nat) : Int) - ((k + 1 : Nat) : Int)) 1)]) (asked_t (W := (N : Int) - 2 * wrong vs.length ρ + 2 * ((ρ (k + 1 - 1) : Int) - ρ (k + 1))) Cs.1 Rv (by rw [List.length_map]; exact Cs.2) rfl (by lia) h66 (Nat.ne_of_gt (by lia)) sqk svv sqw hN hNb hWk) ?B3 ?F3 ?X3 ?N3 ?T3 ?XB3 ?TB3 ?D3 ?A3 ?hf3 ?ck3 ?hV3 ?hW3 ?hN3 ?hd3 ?hu3 ?hP03 ?_
    case F3 => k_asm
    case B3 => assumption
    case X3 => assumption
    case N3 => k_asm
    case T3 => assumption
    case XB3 => assumption
    case TB3 => assumption
    case D3 => assumption
    case A3 => exact rfl
    case hf3 => exact rfl
    case ck3 => exact rfl
    case hV3 => kcj_all
    case hW3 => kcj_all
    case hN3 => exact pair2 (off5 (Nat.ne_of_lt ldf) (Nat.ne_of_lt ldD) (Nat.ne_of_lt ld1) (Nat.ne_of_lt ld2) (Nat.ne_of_lt ldI)) (off5 (by first | assumption | exact Nat.ne_of_lt (by assumption) | exact Nat.ne_of_gt (by assumption) | exact Ne.symm (by assumption) | (apply Nat.ne_of_lt; lia) | (apply Nat.ne_of_gt; lia)) (by first | assumption | exact Nat.ne_of_lt (by assumption) | exact Nat.ne_of_gt (by assumption) | exact Ne.symm (by assumption) | (apply Nat.ne_of_lt; lia) | (apply Nat.ne_of_gt; lia)) (by first | assumption | exact Nat.ne_of_lt (by assumption) | exact Nat.ne_of_gt (by assumption) | exact Ne.symm (by assumption) | (apply Nat.ne_of_lt; lia) | (apply Nat.ne_of_gt; lia)) (by first | assumption | exact Nat.ne_of_lt (by assumption) | exact Nat.ne_of_gt (by assumption) | exact Ne.symm (by assumption) | (apply Nat.ne_of_lt; lia) | (apply Nat.ne_of_gt; lia)) (Ne.symm hIl))
    case hd3 => k_room
    case hu3 => k_units
    case hP03 => exact fun V' ⟨_, h, _⟩ => by cases h
    clear B X T D'
    intro h₇ h₈ tk₇ v V' hP tl7 T₇ F' N' nW7 B' X' T' D'
    obtain ⟨t7, hv, hV'⟩ := hP
    cases hv
    subst hV'
    dsimp only [List.nil_append, List.cons_append] at N'
    obtain ⟨lenf, tz, lastf⟩ := last_found hfl
    (repeat' (first | (k_unfold; (try dsimp only)) | (k_end; kc_close) | (with_reducible ((k_here; with_reducible refine wpAny_execs_nil ?_))) | (with_reducible ((k_here; (with_reducible refine wpAny_execs_cons ?_); (try dsimp only); k_fold))) | walk1 | (dsimp only; walk1) | (leave1; (try dsimp only))))
    refine ⟨?_⟩
    refine' last_led (by k_asm) (by k_mem) lastf (by rw [List.length_map, lenf]; exact len_a hkn h66) ?_
    k_steps
    refine ⟨?_⟩
    refine' append_led (vs := fl.map intV) (n := cf) (by k_asm) (by k_asm) ?Uf (by rw [List.length_map, lenf]; exact len_a hkn h66) ?_
    case Uf => exact .tail (Nat.ne_of_gt ldf) (.tail (by first | assumption | exact Nat.ne_of_lt (by assumption) | exact Nat.ne_of_gt (by assumption) | exact Ne.symm (by assumption) | (apply Nat.ne_of_lt; lia) | (apply Nat.ne_of_gt; lia)) (.head (off4 (by first | assumption | exact Nat.ne_of_lt (by assumption) | exact Nat.ne_of_gt (by assumption) | exact Ne.symm (by assumption) | (apply Nat.ne_of_lt; lia) | (apply Nat.ne_of_gt; lia)) (by first | assumption | exact Nat.ne_of_lt (by assumption) | exact Nat.ne_of_gt (by assumption) | exact Ne.symm (by assumption) | (apply Nat.ne_of_lt; lia) | (apply Nat.ne_of_gt; lia)) (by first | assumption | exact Nat.ne_of_lt (by assumption) | exact Nat.ne_of_gt (by assumption) | exact Ne.symm (by assumption) | (apply Nat.ne_of_lt; lia) | (apply Nat.ne_of_gt; lia)) (Ne.symm hIf))))
    intro hz Fz Nz
    rw [lift_int] at Nz
    (repeat' (first | (k_unfold; (try dsimp only)) | (k_end; kc_close) | (with_reducible ((k_here; with_reducible refine wpAny_execs_nil ?_))) | walk1 | (dsimp only; walk1) | (leave1; (try dsimp only))))
    rename News _ _ _ _ => NZ
    rename Fr _ _ _ _ => FZ
    refine ⟨⟨rfl, h₇, _, [(lF, listOf ((fl ++ [(2 * (ρ k : Int) - 2 * (ρ 0 : Int) + ((N : Int) - 2 * wrong vs.length ρ) - ((N : Int) - 2 * wrong vs.length ρ + 2 * ((ρ (k + 1 - 1) : Int) - (ρ (k + 1) : Int))), tk₇ + 1 + 1 + 1 + 1)]).map intV).toArray (cf + 1)), (lh, listOf vs.toArray ch), (D, listOf (zs.map intV).toArray cD), (L' + 1 + 1, oF), (L' + 1, oc2)], ?hJ, ?hW, ⟨?hT, FZ, ?hN, (by assumption), (by assumption), (by assumption), (by assumption), (by assumption), (by assumption)⟩, rfl⟩⟩
    case hN =>
      intro q hq
      refine NZ q ?_
      rcases List.mem_cons.mp hq with rfl | hq
      · exact .tail _ (.tail _ (.tail _ (.tail _ (.tail _ (.tail _ (.head _))))))
      rcases List.mem_cons.mp hq with rfl | hq
      · exact .tail _ (.tail _ (.head _))
      rcases List.mem_cons.mp hq with rfl | hq
      · exact .tail _ (.head _)
      exact .tail _ (.tail _ (.tail _ (List.mem_append_left [_] hq)))
    case hW =>
      intro q hq
      rcases List.mem_cons.mp hq with rfl | hq
      · exact hIf
      · exact hWn q (.tail _ hq)
    case hT => exact T0.trans T₇
    case hJ =>
      refine ⟨⟨_, rfl⟩, ⟨_, rfl⟩, rfl, ⟨_, cf + 1, ?_, rfl⟩, ?_⟩
      · rw [List.map_append, hfl, List.range_succ (n := k + 1), List.map_append]
        simp
        lia
      · dsimp only at *
        lia
end
end Mine
end

-- UL
section
open PySem PySem.W PySem.Calls PyProof.Rows
set_option maxRecDepth 100000
namespace Mine
/-- `==` of the things among themselves is told by `e` -/
def Alike (w : World) (b : Heap) (vs : List Value) (e : Value → Value → Bool) : Prop := ∀ x y, x ∈ vs → y ∈ vs → ∀ {A : Around} {s : Shared}, b.StaysIn s.heap → A.depth + 5 < recursionLimit → A.units + 50 < cLine → PySem.SeqAt.EqAt A s y x (e y x)
/-- one more thing for the row -/
def more (e : Value → Value → Bool) (done : List Value) (x : Value) : List Value := if done.any (fun y => e y x) then done else done ++ [x]
def row (e : Value → Value → Bool) (vs : List Value) : List Value := vs.foldl (more e) []
theorem more_sub {e : Value → Value → Bool} {d : List Value} {x : Value} : ∀ y ∈ more e d x, y ∈ d ∨ y = x := by
  intro y hy
  unfold more at hy
  split at hy
  · exact .inl hy
  · rcases List.mem_append.mp hy with h | h
    · exact .inl h
    · exact .inr (List.mem_singleton.mp h)
theorem row_sub {e : Value → Value → Bool} : ∀ (vs d : List Value), ∀ y ∈ vs.foldl (more e) d, y ∈ d ∨ y ∈ vs
  | [], d, y, h => .inl h
  | x :: r, d, y, h => by
    rcases row_sub r (more e d x) y h with h | h
    · rcases more_sub y h with h | h
      · exact .inl h
      · exact .inr (h ▸ .head _)
    · exact .inr (.tail _ h)
theorem more_len {e : Value → Value → Bool} {d : List Value} {x : Value} : (more e d x).length ≤ d.length + 1 := by
  unfold more
  split <;> simp
theorem row_take {e : Value → Value → Bool} {vs : List Value} {k : Nat} {v : Value} (h : vs[k]? = some v) : row e (vs.take (k + 1)) = more e (row e (vs.take k)) v := by
  unfold row
  rw [List.take_add_one, h, Option.toList_some, List.foldl_append]
  rfl
theorem row_len {e : Value → Value → Bool} : ∀ (vs d : List Value), (vs.foldl (more e) d).length ≤ d.length + vs.length
  | [], d => Nat.le_refl _
  | x :: r, d => by
    have a := row_len (e := e) r (more e d x)
    have b := more_len (e := e) (d := d) (x := x)
    simp only [List.foldl_cons, List.length_cons]
    lia
/-- what the loop keeps -/
structure UJ (lr lt : Addr) (vs : List Value) (c : Nat) (e : Value → Value → Bool) (k : Nat) (m : Str → Option Value) (W : List (Addr × Obj)) (tk : Nat) : Prop where
  row : m "row" = some (.ref lr)
  led : ∃ cr, W = [(lr, listOf (Mine.row e (vs.take k)).toArray cr), (lt, listOf vs.toArray c)]
local macro_rules | `(tactic| walk_at "compareOp NotIn") => `(tactic| refine hold ?_)
local macro_rules | `(tactic| walk_at "call builtin:list.append") => `(tactic| refine hold ?_)
section
variable {w : World} {base : Heap}
set_option maxHeartbeats 8000000 in
theorem unlike_t {lt : Addr} {vs : List Value} {c : Nat} {e : Value → Value → Bool} (AL : Alike w base vs e) (h66 : vs.length ≤ 66) :
    DoesA w 10 base 298 ⟨[.ref lt], []⟩ [(lt, listOf vs.toArray c)] (fun r V' => ∃ lr cr, lt ≠ lr ∧ r = some (.ref lr) ∧ V' = [(lr, listOf (row e vs).toArray cr), (lt, listOf vs.toArray c)]) := by
  intro p loose mean mg mb dp un gd outer g s R S V hd hu hq he
  obtain ⟨B, X, T, XB, TB, KD⟩ := S
  k_lift B
  revert X; unfold PG; k_fill; intro X
  (k_dflt (refine' enter ?zSz ?zXz ?zTz ?zk6z ?zk7z ?zk8z ?zk9z ?zkBz ?_ ?zc2z ?zc3z ?zc4z ?zc5z; (case zSz => assumption); (case zXz => assumption); (case zTz => assumption); (case zk6z => k_is); (case zk7z => k_is); (case zk8z => k_room); (case zk9z => first | exact BindsTo.of_eq rfl | exact binds_K (by k_in) rfl (by k_is) rfl rfl rfl | (refine' kp_binds ?zkxz ?zkez; (case zkxz => exact Frag.In.keeps (by assumption) (fun b o e => Sits.keep (by assumption) b o e)); (case zkez => exact fun _ => rfl))); (case zkBz => exact locs rfl); (case zc2z => exact rfl); (case zc3z => exact rfl); (case zc4z => exact rfl); (case zc5z => decide); k_whole; intro L' h' F' N'; (try dsimp only); (try k_fold)))
  (repeat' (first | (k_unfold; (try dsimp only)) | (k_end; kc_close) | (with_reducible ((k_here; (try k_gentoks); (with_reducible refine wpAny_execs_cons ?_); (try dsimp only); (try k_fold)))) | walk1 | (dsimp only; walk1) | (leave1; (try dsimp only))))
  rename_i Lx _ lr _ lrl _ FF NN
  refine ⟨wpAny_For ?_⟩
  k_steps
  refine' pyIter_led (by k_asm) (by k_asm) (by k_mem) ?_
  intro I h₁ F1 N1 l2
  refine' for_list (hh := g) (base := base) (outer := outer) (A₀ := kAt dp un gd outer) (vs := vs) (J := UJ lr lt vs c e) (W := [(lr, listOf #[] 0), (lt, listOf vs.toArray c)]) rfl ?hl ?turn ?fin ?hJ ?hW ?hF
  case hF => exact ⟨.refl, F1, N1, (by assumption), (by assumption), (by assumption), (by assumption), (by assumption), (by assumption)⟩
  case hW => exact fun q hq => Nat.ne_of_lt (l2 q hq)
  case hJ => exact ⟨rfl, 0, rfl⟩
  case hl =>
    intro k m W t h₀ h V hJ FF'
    obtain ⟨_, cr, rfl⟩ := hJ
    exact FF'.N.isList (.tail _ (.tail _ (.head _)))
  case fin =>
    intro m W h₃ s₃ hJ FF' hs
    obtain ⟨hrow, cr, rfl⟩ := hJ
    obtain ⟨T0, F, N', B, X, T, _, _, D'⟩ := FF'
    rw [patch hrow] at F
    rw [List.take_length] at N'
    refine st_elim (s := s) (s₃ := s₃) hs fun hh tt e₃ => ?_
    clear hs; subst e₃
    clear F1 N1 FF NN
    (repeat' (first | (k_unfold; (try dsimp only)) | (k_end; kc_close) | (with_reducible ((k_here; (try k_gentoks); (with_reducible refine wpAny_execs_cons ?_); (try dsimp only); (try k_fold)))) | walk1 | (dsimp only; walk1) | (leave1; (try dsimp only))))
    refine hq h₃ _ _ _ _ ⟨lr, cr, Nat.ne_of_lt lrl, rfl, rfl⟩ T0 (Sits.of_fr (by k_asm) (by k_asm))
  case turn =>
    intro k m W s₃ h₃ v hv hJ hWn FF' hs
    obtain ⟨hrow, cr, rfl⟩ := hJ
    obtain ⟨T0, F, N', B, X, T, _, _, D'⟩ := FF'
    rw [patch hrow] at F
    refine st_elim (s := s) (s₃ := s₃) hs fun hh tt e₃ => ?_
    clear hs; subst e₃
    clear F1 N1 FF NN
    have hvm : v ∈ vs := List.mem_of_getElem? hv
    have hsub : ∀ y ∈ Mine.row e (vs.take k), y ∈ vs := fun y hy => by
      rcases row_sub _ _ y hy with h | h
      · cases h
      · exact List.mem_of_mem_take h
    have hlen : (Mine.row e (vs.take k)).length ≤ 66 := by
      have := row_len (e := e) (vs.take k) []
      unfold Mine.row
      simp only [List.length_nil, List.length_take] at this
      lia
    (repeat' (first | (k_unfold; (try dsimp only)) | (k_end; kc_close) | (with_reducible ((k_here; (try k_gentoks); (with_reducible refine wpAny_execs_cons ?_); (try dsimp only); (try k_fold)))) | walk1 | (dsimp only; walk1) | (leave1; (try dsimp only))))
    refine ⟨?_⟩
    rename News _ _ _ _ => NZ
    rename Fr _ _ _ _ => FZ
    refine PySem.SeqAt.notIn_listAt (fun y => e y v) (NZ.isList (.tail _ (.head _))) (fun y hy => AL v y hvm (hsub y (by simpa using hy)) (stays_of (by assumption) FZ) (by k_room) (by k_units)) ?_
    have hrt := row_take (e := e) hv
    by_cases h : (Mine.row e (vs.take k)).any (fun y => e y v) = true
    · rw [show (!(Mine.row e (vs.take k)).toArray.any fun y => e y v) = false by simpa using h]
      rw [more, if_pos h] at hrt
      k_steps
      rename News _ _ _ _ => NZ
      rename Fr _ _ _ _ => FZ
      exact ⟨⟨rfl, h₃, _, [(lr, listOf (Mine.row e (vs.take k)).toArray cr), (lt, listOf vs.toArray c)], ⟨rfl, cr, by rw [hrt]⟩, hWn, ⟨T0, FZ, NZ, (by assumption), (by assumption), (by assumption), (by assumption), (by assumption), (by assumption)⟩, rfl⟩⟩
    · rw [show (!(Mine.row e (vs.take k)).toArray.any fun y => e y v) = true by simpa using h]
      rw [more, if_neg h] at hrt
      (repeat' (first | (k_unfold; (try dsimp only)) | (k_end; kc_close) | (with_reducible ((k_here; (try k_gentoks); (with_reducible refine wpAny_execs_cons ?_); (try dsimp only); (try k_fold)))) | walk1 | (dsimp only; walk1) | (leave1; (try dsimp only))))
      refine ⟨?_⟩
      refine append_led (by k_asm) (by k_asm) (.tail (Ne.symm (hWn (lr, _) (.head _))) (.head fun p hp => ?_)) (Nat.le_trans hlen (by decide)) fun h8 F8 N8 => ?_
      · obtain rfl := List.mem_singleton.mp hp
        exact Nat.ne_of_lt lrl
      rw [← hrt] at N8
      k_steps
      rename News _ _ _ _ => NZ
      rename Fr _ _ _ _ => FZ
      exact ⟨⟨rfl, h₃, _, [(lr, listOf (Mine.row e (vs.take (k + 1))).toArray (cr + 1)), (lt, listOf vs.toArray c)], ⟨rfl, cr + 1, rfl⟩, fun q hq => by
        rcases List.mem_cons.mp hq with rfl | hq
        · exact hWn (lr, listOf (Mine.row e (vs.take k)).toArray cr) (.head _)
        · exact hWn q (.tail _ hq), ⟨T0, FZ, NZ, (by assumption), (by assumption), (by assumption), (by assumption), (by assumption), (by assumption)⟩, rfl⟩⟩
end
end Mine
end

-- RQP
section
open PySem PySem.W PySem.Calls PyProof.Rows PySem.SeqAt
set_option maxRecDepth 100000
namespace Mine
/-- a pair of whole numbers at its address -/
structure Duo where
  at' : Addr
  p : Int
  q : Int
  t : Tok
  u : Tok
abbrev Duo.obj (z : Duo) : Obj := pairObj (.int z.p z.t) (.int z.q z.u)
abbrev Duo.lt (x y : Duo) : Bool := if x.p = y.p then decide (x.q < y.q) else decide (x.p < y.p)
set_option maxHeartbeats 4000000 in
theorem lt_pairMeets (x y : Duo) : Meets (Builtin.«tuple.__lt__» ⟨[.ref x.at', .ref y.at'], []⟩)
    (fun A R s => s.heap.get? x.at' = some x.obj ∧ s.heap.get? y.at' = some y.obj ∧ R (.ok (.ret (.bool (x.lt y)))) s) :=
  .of_wp fun prog w A R s h => by
    obtain ⟨hp, g, d, tk, os⟩ := s; obtain ⟨hl, hb, h⟩ := h
    have f2 := AutoSeq1.sub_tuple_tuple
    wp_walk using AutoSeq1.wpAny_loadPart' hl, AutoSeq1.wpAny_loadPart' hb, wpAny_forIn_list _ (fun rest b s' => b.1 = none ∧ s' = ⟨hp, g, d, tk, os⟩ ∧
      ((rest = [(Value.int x.p x.t, Value.int y.p y.t), (Value.int x.q x.u, Value.int y.q y.u)]) ∨ (x.p = y.p ∧ rest = [(Value.int x.q x.u, Value.int y.q y.u)]) ∨ (x.p = y.p ∧ x.q = y.q ∧ rest = []))) _
    case turn =>
      rintro ⟨v, v'⟩ rest b s' ⟨hb', rfl, hz⟩
      rcases hz with hz | ⟨hp', hz⟩ | ⟨_, _, hz⟩
      · injection hz with hyx hrest
        obtain ⟨rfl, rfl⟩ := Prod.mk.inj hyx
        refine wpAny_bind (EqAt.int_int _ _ _ _ prog w _ _ ?_)
        by_cases e : x.p = y.p
        · rw [show (x.p == y.p) = true by simpa using e]
          wp_walk
          exact ⟨rfl, rfl, .inr (.inl ⟨e, hrest⟩)⟩
        · rw [show (x.p == y.p) = false by simpa using e]
          rw [show x.lt y = decide (x.p < y.p) from if_neg e] at h
          rw [if_pos (by decide)]
          refine wpAny_bind (wpAny_rule (wpAny_bind (wpAny_lt_int ?_)))
          wp_walk
          exact ⟨_, rfl, h⟩
      · injection hz with hyx hrest
        obtain ⟨rfl, rfl⟩ := Prod.mk.inj hyx
        refine wpAny_bind (EqAt.int_int _ _ _ _ prog w _ _ ?_)
        by_cases e : x.q = y.q
        · rw [show (x.q == y.q) = true by simpa using e]
          wp_walk
          exact ⟨rfl, rfl, .inr (.inr ⟨hp', e, hrest⟩)⟩
        · rw [show (x.q == y.q) = false by simpa using e]
          rw [show x.lt y = decide (x.q < y.q) from if_pos hp'] at h
          rw [if_pos (by decide)]
          refine wpAny_bind (wpAny_rule (wpAny_bind (wpAny_lt_int ?_)))
          wp_walk
          exact ⟨_, rfl, h⟩
      · cases hz
    case fin =>
      rintro ⟨b1, b2⟩ s' ⟨hb', rfl, hz⟩
      simp only at hb'
      subst hb'
      rcases hz with hz | ⟨_, hz⟩ | ⟨e1, e2, _⟩
      · cases hz
      · cases hz
      rw [show x.lt y = false by rw [Duo.lt, if_pos e1, e2]; simp] at h
      wp_walk
      exact ⟨_, rfl, by simpa [Builtin.Tuple.tupleCompareSizes] using h⟩
    case h =>
      exact ⟨rfl, rfl, .inl rfl⟩
theorem lt_pairs {prog : Program} {w : World} {A : Around} {E : Value → Shared → Prop} {s : Shared} {Q : Value → Shared → Prop} {x y : Duo} (hx : s.heap.get? x.at' = some x.obj) (hy : s.heap.get? y.at' = some y.obj) (hu : A.units < cLine)
    (h : Q (.bool (x.lt y)) s) : wpAny (model prog w) A (compareOp .Lt (.ref x.at') (.ref y.at')) Q E s :=
  richCompare_meets_room (op := .Lt) ⟨_, hx, rfl⟩ ⟨_, hy, rfl⟩ F.slot_tuple_lt F.entry_tuple_lt (F.args_tuple_lt_2 _ _) (lt_pairMeets x y)
    ⟨hx, hy, show Value.bool (x.lt y) ≠ Value.notImplemented ∧ Q (.bool (x.lt y)) s from ⟨(fun x => nomatch x), h⟩⟩ hu
theorem eqAt_pairs {A : Around} {s : Shared} {x y : Duo} (hxy : x.at' ≠ y.at') (hx : s.heap.get? x.at' = some x.obj) (hy : s.heap.get? y.at' = some y.obj) (hu : A.units < cLine) : EqAt A s (.ref x.at') (.ref y.at') ((x.p == y.p) && (x.q == y.q)) :=
  EqAt.of_refs hxy fun _ _ _ _ h => eq_pairs hx hy hu h
abbrev Duo.val (z : Duo) : Value := .ref z.at'
/-- what is asked of pairs: they lie in the heap, and all that names them is unlike -/
structure Duos (b : Heap) (ps : List Duo) : Prop where
  has : ∀ z ∈ ps, b.get? z.at' = some z.obj
  apart : (ps.map (·.at')).Nodup
  t : (ps.map (·.t)).Nodup
  u : (ps.map (·.u)).Nodup
  t0 : ∀ z ∈ ps, z.t ≠ 0
  u0 : ∀ z ∈ ps, z.u ≠ 0
  small : ∀ z ∈ ps, smallInt z.p = true
theorem strict_pairs {ps : List Duo} (h : (ps.map (·.q)).Nodup) : Strict Duo.lt ps := by
  refine ⟨fun x _ => by simp [Duo.lt], fun x _ y _ z _ a b => ?_, fun x hx y hy hxy => ?_⟩
  · simp only [Duo.lt] at *
    split at a <;> split at b <;> split <;> simp_all <;> lia
  · have := nodup_key h hx hy hxy
    simp only [Duo.lt]
    by_cases e : x.p = y.p
    · rw [if_pos e, if_pos e.symm]
      simp; lia
    · rw [if_neg e, if_neg (Ne.symm e)]
      simp; lia
theorem at_map {α : Type} {f : α → Value} {l : List α} {d : α} {i : Nat} (hi : i < l.length) : (l.map f).getD i .none = f (l.getD i d) := by
  rw [List.getD, List.getD, List.getElem?_map, List.getElem?_eq_getElem hi]; rfl
theorem ranked_pairs {w : World} {b : Heap} (ps : List Duo) (D : Duos b ps) (hq : (ps.map (·.q)).Nodup) (d : Duo) :
    Ranked w b (ps.map Duo.val) (fun i => rk Duo.lt ps (ps.getD i d)) := by
  have S := strict_pairs hq
  have nd := nodup_of_key hq
  have hg : ∀ i, i < ps.length → (ps.map Duo.val).getD i .none = .ref (ps.getD i d).at' := fun i hi => at_map hi
  refine ⟨fun i hi => ?_, fun i j hi hj e => ?_, ⟨.type "tuple", rfl, fun v hv h st => ?_, fun i j hi hj hij A E s Q st _ hu h => ?_⟩, fun i j hi hj => ?_, fun i j hi hj A E s Q st _ hu h => ?_⟩
  · rw [List.length_map] at hi ⊢
    exact S.below (at_mem hi)
  · rw [List.length_map] at hi hj
    exact Classical.byContradiction fun hij => S.inj (at_mem hi) (at_mem hj) e (at_ne nd hi hj hij)
  · obtain ⟨z, hz, rfl⟩ := List.mem_map.mp hv
    exact kitAt_ty _ _ ⟨_, st _ _ (D.has z hz), rfl⟩
  · rw [List.length_map] at hi hj
    rw [hg i hi, hg j hj]
    have mi := at_mem (d := d) hi
    have mj := at_mem (d := d) hj
    rw [S.iff mi mj (at_ne nd hi hj hij)] at h
    show wpAny _ _ (oneLt' false _ _) _ _ _
    refine kat_one _ _ (lt_pairs (st _ _ (D.has _ mi)) (st _ _ (D.has _ mj)) (by lia) ?_)
    exact h
  · rw [List.length_map] at hi hj
    rw [hg i hi, hg j hj]
    have mi := at_mem (d := d) hi
    have mj := at_mem (d := d) hj
    by_cases hij : i = j
    · subst hij
      rw [decide_eq_true rfl]
      exact ⟨rfl, rfl, true, fun _ => rfl, fun _ _ _ h => is_ref_self h, fun h => by cases h⟩
    · rw [decide_eq_false hij]
      have hne := at_ne (d := d) nd hi hj hij
      have p2 := nodup_key hq mi mj hne
      refine ⟨rfl, rfl, false, fun h => (by cases h), fun st _ hu h => is_pair_other (nodup_key D.apart mi mj hne) (st _ _ (D.has _ mi)) (st _ _ (D.has _ mj)) (D.t0 _ mi) (D.u0 _ mi) (D.t0 _ mj) (D.u0 _ mj) (nodup_key D.t mi mj hne) (nodup_key D.u mi mj hne) p2 (D.small _ mi) (by lia) h,
        fun _ _ _ _ _ st _ hu h => eq_pairs (st _ _ (D.has _ mi)) (st _ _ (D.has _ mj)) (by lia) ?_⟩
      rw [show (((ps.getD i d).q == (ps.getD j d).q)) = false by simpa using p2, Bool.and_false]
      exact h
  · rw [List.length_map] at hi hj
    rw [hg i hi, hg j hj]
    have mi := at_mem (d := d) hi
    have mj := at_mem (d := d) hj
    by_cases hij : i = j
    · subst hij
      rw [decide_eq_true rfl] at h
      exact EqAt.same _ _ _ _ _ h
    · rw [decide_eq_false hij] at h
      have hne := at_ne (d := d) nd hi hj hij
      have p2 := nodup_key hq mi mj hne
      refine eqAt_pairs (nodup_key D.apart mi mj hne) (st _ _ (D.has _ mi)) (st _ _ (D.has _ mj)) (by lia) _ _ _ _ ?_
      rw [show (((ps.getD i d).q == (ps.getD j d).q)) = false by simpa using p2, Bool.and_false]
      exact h
/-- `<` by the rank, given that `<` is told by lt -/
theorem less_by {α : Type} {w : World} {b : Heap} {f : α → Value} {lt : α → α → Bool} {ps : List α} (S : Strict lt ps) (nd : ps.Nodup) (d : α)
    (hl : ∀ x ∈ ps, ∀ y ∈ ps, ∀ {A : Around} {E : Value → Shared → Prop} {s : Shared} {Q : Value → Shared → Prop}, b.StaysIn s.heap → A.units + 50 < cLine → Q (.bool (lt x y)) s → wpAny (model PG w) A (compareOp .Lt (f x) (f y)) Q E s) :
    Less w b (ps.map f) (fun i => rk lt ps (ps.getD i d)) := by
  intro i j hi hj A E s Q st _ hu h
  rw [List.length_map] at hi hj
  rw [at_map (d := d) hi, at_map (d := d) hj]
  have mi := at_mem (d := d) hi
  have mj := at_mem (d := d) hj
  refine hl _ mi _ mj st hu ?_
  by_cases hij : i = j
  · subst hij
    rw [S.irr _ mi]
    simpa using h
  · rw [S.iff mi mj (at_ne nd hi hj hij)] at h
    exact h
theorem less_pairs {w : World} {b : Heap} (ps : List Duo) (D : Duos b ps) (hq : (ps.map (·.q)).Nodup) (d : Duo) : Less w b (ps.map Duo.val) (fun i => rk Duo.lt ps (ps.getD i d)) :=
  less_by (strict_pairs hq) (nodup_of_key hq) d fun x hx y hy _ _ _ _ st hu h => lt_pairs (st _ _ (D.has _ hx)) (st _ _ (D.has _ hy)) (by lia) h
theorem strict_ints {zs : List (Int × Tok)} (h1 : (zs.map (·.1)).Nodup) : Strict (fun (x y : Int × Tok) => decide (x.1 < y.1)) zs := ⟨fun x _ => by simp, fun x _ y _ z _ => by simp; lia, fun x hx y hy hxy => by
    have := nodup_key h1 hx hy hxy
    simp; lia⟩
theorem less_ints {w : World} {b : Heap} (zs : List (Int × Tok)) (h1 : (zs.map (·.1)).Nodup) : Less w b (zs.map fun z => Value.int z.1 z.2) (fun i => rk (fun (x y : Int × Tok) => decide (x.1 < y.1)) zs (zs.getD i (0, 0))) :=
  less_by (strict_ints h1) (nodup_of_key h1) _ fun x _ y _ _ _ _ _ _ _ h => wpAny_lt_int h
theorem less_strs {w : World} {b : Heap} (zs : List (Str × Tok)) (h1 : (zs.map (·.1)).Nodup) (d : Str × Tok) : Less w b (zs.map fun z => Value.str z.1 z.2) (fun i => rk strLt zs (zs.getD i d)) :=
  less_by (strict_strs h1) (nodup_of_key h1) _ fun x _ y _ _ _ _ _ _ _ h => lt_str h
end Mine
end

-- DD
section
open PySem PySem.W PySem.Calls PyProof.Rows PySem.SeqAt
set_option maxRecDepth 100000
namespace Mine
section
variable {α β : Type} [BEq β] [LawfulBEq β]
def ddStep (key : α → β) (d : List α) (x : α) : List α := if d.any (fun y => key y == key x) then d else d ++ [x]
def dd (key : α → β) (zs : List α) : List α := zs.foldl (ddStep key) []
theorem row_map_go {f : α → Value} {e : Value → Value → Bool} {key : α → β} {P : α → Prop} (h : ∀ y x, P y → P x → e (f y) (f x) = (key y == key x)) : ∀ (zs d : List α), (∀ z ∈ zs, P z) → (∀ z ∈ d, P z) →
    (zs.map f).foldl (more e) (d.map f) = (zs.foldl (ddStep key) d).map f
  | [], _, _, _ => rfl
  | x :: r, d, hz, hd => by
    have hx := hz x (.head _)
    have e1 : more e (d.map f) (f x) = (ddStep key d x).map f := by
      unfold more ddStep
      have e2 : (d.map f).any (fun y => e y (f x)) = d.any (fun y => key y == key x) := by
        rw [List.any_map]
        rw [Bool.eq_iff_iff, List.any_eq_true, List.any_eq_true]
        constructor
        · rintro ⟨y, hy, hh⟩; exact ⟨y, hy, by rw [← h y x (hd y hy) hx]; exact hh⟩
        · rintro ⟨y, hy, hh⟩; exact ⟨y, hy, by show e (f y) (f x) = true; rw [h y x (hd y hy) hx]; exact hh⟩
      rw [e2]
      split
      · rfl
      · rw [List.map_append]; rfl
    rw [List.map_cons, List.foldl_cons, e1]
    refine row_map_go h r _ (fun z hz' => hz z (.tail _ hz')) fun z hz' => ?_
    unfold ddStep at hz'
    split at hz'
    · exact hd z hz'
    · rcases List.mem_append.mp hz' with h' | h'
      · exact hd z h'
      · rw [List.mem_singleton.mp h']; exact hx
theorem row_map {f : α → Value} {e : Value → Value → Bool} {key : α → β} {zs : List α} (h : ∀ y x, y ∈ zs → x ∈ zs → e (f y) (f x) = (key y == key x)) : row e (zs.map f) = (dd key zs).map f :=
  row_map_go (P := fun z => z ∈ zs) h zs [] (fun _ h => h) fun _ h => nomatch h
theorem dd_sub_go {key : α → β} : ∀ (zs d p : List α), d.Sublist p → (zs.foldl (ddStep key) d).Sublist (p ++ zs)
  | [], d, p, h => by simpa using h
  | x :: r, d, p, h => by
    have := dd_sub_go (key := key) r (ddStep key d x) (p ++ [x]) (by
      unfold ddStep
      split
      · exact h.trans (List.sublist_append_left _ _)
      · exact h.append (List.Sublist.refl _))
    simpa using this
theorem dd_sub {key : α → β} {zs : List α} : (dd key zs).Sublist zs := by
  have := dd_sub_go (key := key) zs [] [] (List.Sublist.refl _)
  rw [List.nil_append] at this
  exact this
theorem dd_nodup_go {key : α → β} : ∀ (zs d : List α), (d.map key).Nodup → ((zs.foldl (ddStep key) d).map key).Nodup
  | [], _, h => h
  | x :: r, d, h => by
    refine dd_nodup_go r _ ?_
    unfold ddStep
    split
    · exact h
    · rename_i hn
      rw [List.map_append, List.nodup_append]
      refine ⟨h, by simp, fun a ha b hb => ?_⟩
      obtain ⟨y, hy, rfl⟩ := List.mem_map.mp ha
      obtain rfl : b = key x := by simpa using hb
      intro e
      exact hn (List.any_eq_true.mpr ⟨y, hy, by simpa using e⟩)
theorem dd_nodup {key : α → β} {zs : List α} : ((dd key zs).map key).Nodup := dd_nodup_go zs [] (by simp)
theorem dd_len_go {key : α → β} : ∀ (zs d : List α), d.length ≤ (zs.foldl (ddStep key) d).length
  | [], _ => Nat.le_refl _
  | x :: r, d => Nat.le_trans (by unfold ddStep; split <;> simp) (dd_len_go r (ddStep key d x))
theorem dd_three {key : α → β} {a b c : α} {r : List α} (h1 : key a ≠ key b) (h2 : key a ≠ key c) (h3 : key b ≠ key c) : 3 ≤ (dd key (a :: b :: c :: r)).length := by
  have e : dd key (a :: b :: c :: r) = r.foldl (ddStep key) [a, b, c] := by
    have b1 : (key a == key b) = false := by simpa using h1
    have b2 : (key a == key c) = false := by simpa using h2
    have b3 : (key b == key c) = false := by simpa using h3
    unfold dd
    simp [ddStep, b1, b2, b3]
  rw [e]
  exact dd_len_go r [a, b, c]
end
/-- all that `_law_found` asks of things of which the like are thrown out; TL are the objects that they stand on -/
def Fits (w : World) (TL : List (Addr × Obj)) (vs : List Value) : Prop := ∃ e ρ, 3 ≤ (row e vs).length ∧ ∀ b : Heap, (∀ q ∈ TL, b.get? q.1 = some q.2) → Alike w b vs e ∧ Ranked w b (row e vs) ρ ∧ Less w b (row e vs) ρ
theorem sub_nodup {α β : Type} {f : α → β} {l l' : List α} (h : l.Sublist l') (n : (l'.map f).Nodup) : (l.map f).Nodup := (h.map f).nodup n
theorem fit_ints {w : World} {TL : List (Addr × Obj)} {t1 t2 t3 : Tok} {r : List (Int × Tok)} (zs : List (Int × Tok)) (hz : zs = (5, t1) :: (-2, t2) :: (40, t3) :: r) (h2 : (zs.map (·.2)).Nodup) (h3 : ∀ z ∈ zs, z.2 ≠ 0) :
    Fits w TL (zs.map fun z => Value.int z.1 z.2) := by
  let e : Value → Value → Bool := fun v v' => match v, v' with | .int a _, .int b _ => a == b | _, _ => false
  have re : row e (zs.map fun z => Value.int z.1 z.2) = (dd (·.1) zs).map fun z => Value.int z.1 z.2 := row_map fun y x _ _ => rfl
  refine ⟨e, _, ?_, fun b _ => ⟨fun x y hx hy A s _ _ _ => ?_, by rw [re]; exact ranked_ints (dd (·.1) zs) dd_nodup (sub_nodup dd_sub h2) fun z hz => h3 z (dd_sub.mem hz), by rw [re]; exact less_ints _ dd_nodup⟩⟩
  rotate_left
  · obtain ⟨a, _, rfl⟩ := List.mem_map.mp hx
    obtain ⟨c, _, rfl⟩ := List.mem_map.mp hy
    exact EqAt.int_int _ _ _ _
  · rw [re, List.length_map, hz]
    exact dd_three (show (5 : Int) ≠ -2 by decide) (show (5 : Int) ≠ 40 by decide) (show (-2 : Int) ≠ 40 by decide)
theorem fit_strs {w : World} {TL : List (Addr × Obj)} {x1 x2 x3 : Str} {t1 t2 t3 : Tok} {r : List (Str × Tok)} (zs : List (Str × Tok)) (hz : zs = (x1, t1) :: (x2, t2) :: (x3, t3) :: r) (n1 : x1 ≠ x2) (n2 : x1 ≠ x3) (n3 : x2 ≠ x3)
    (h2 : (zs.map (·.2)).Nodup) (h3 : ∀ z ∈ zs, z.2 ≠ 0) : Fits w TL (zs.map fun z => Value.str z.1 z.2) := by
  let e : Value → Value → Bool := fun v v' => match v, v' with | .str a _, .str b _ => a == b | _, _ => false
  have re : row e (zs.map fun z => Value.str z.1 z.2) = (dd (·.1) zs).map fun z => Value.str z.1 z.2 := row_map fun y x _ _ => rfl
  refine ⟨e, _, ?_, fun b _ => ⟨fun x y hx hy A s _ _ _ => ?_, by rw [re]; exact ranked_strs (dd (·.1) zs) (strict_strs dd_nodup) dd_nodup (sub_nodup dd_sub h2) (fun z hz => h3 z (dd_sub.mem hz)) (x1, t1), by rw [re]; exact less_strs _ dd_nodup (x1, t1)⟩⟩
  rotate_left
  · obtain ⟨a, _, rfl⟩ := List.mem_map.mp hx
    obtain ⟨c, _, rfl⟩ := List.mem_map.mp hy
    exact EqAt.str_str _ _ _ _
  · rw [re, List.length_map, hz]
    exact dd_three n1 n2 n3
theorem fit_pairs {w : World} {TL : List (Addr × Obj)} {d1 d2 d3 : Duo} {r : List Duo} (ps : List Duo) (hz : ps = d1 :: d2 :: d3 :: r) (n1 : d1.q ≠ d2.q) (n2 : d1.q ≠ d3.q) (n3 : d2.q ≠ d3.q) (ap : (ps.map (·.at')).Nodup) (DD : ∀ b : Heap, (∀ q ∈ TL, b.get? q.1 = some q.2) → Duos b ps) (hm : ∀ z ∈ ps, z.p = z.q.fmod 3) : Fits w TL (ps.map Duo.val) := by
  classical
  let e : Value → Value → Bool := fun v v' => decide (∃ x, x ∈ ps ∧ ∃ y, y ∈ ps ∧ v = x.val ∧ v' = y.val ∧ x.q = y.q)
  have uniq : ∀ x y, x ∈ ps → y ∈ ps → x.val = y.val → x = y := fun x y hx hy h => Classical.byContradiction fun hn => nodup_key ap hx hy hn (by injection h)
  have ek : ∀ y x, y ∈ ps → x ∈ ps → e y.val x.val = (y.q == x.q) := fun y x hy hx => by
    show decide _ = _
    rw [Bool.eq_iff_iff, decide_eq_true_iff, beq_iff_eq]
    constructor
    · rintro ⟨y', hy', x', hx', h1, h2, h3⟩
      rw [uniq _ _ hy hy' h1, uniq _ _ hx hx' h2, h3]
    · exact fun h => ⟨y, hy, x, hx, rfl, rfl, h⟩
  have re : row e (ps.map Duo.val) = (dd (·.q) ps).map Duo.val := row_map ek
  have D' : ∀ b : Heap, Duos b ps → Duos b (dd (·.q) ps) := fun b D => ⟨fun z hz => D.has z (dd_sub.mem hz), sub_nodup dd_sub D.apart, sub_nodup dd_sub D.t, sub_nodup dd_sub D.u, fun z hz => D.t0 z (dd_sub.mem hz), fun z hz => D.u0 z (dd_sub.mem hz), fun z hz => D.small z (dd_sub.mem hz)⟩
  refine ⟨e, _, ?_, fun b hb => ⟨fun x y hx hy A s st _ hu => ?_, by rw [re]; exact ranked_pairs _ (D' b (DD b hb)) dd_nodup d1, by rw [re]; exact less_pairs _ (D' b (DD b hb)) dd_nodup d1⟩⟩
  rotate_left
  · obtain ⟨a, ha, rfl⟩ := List.mem_map.mp hx
    obtain ⟨c, hc, rfl⟩ := List.mem_map.mp hy
    have D := DD b hb
    rw [ek c a hc ha]
    by_cases h : c.at' = a.at'
    · obtain rfl := uniq _ _ hc ha (by rw [Duo.val, h])
      rw [beq_self_eq_true]
      exact EqAt.same _
    · have := eqAt_pairs (A := A) h (st _ _ (D.has _ hc)) (st _ _ (D.has _ ha)) (by lia)
      have e2 : ((c.p == a.p) && (c.q == a.q)) = (c.q == a.q) := by
        by_cases hq : c.q = a.q
        · rw [hm c hc, hm a ha, hq]; simp
        · rw [show (c.q == a.q) = false by simpa using hq, Bool.and_false]
      rwa [e2] at this
  · rw [re, List.length_map, hz]
    exact dd_three n1 n2 n3
theorem six (n : Nat) : ∃ N : Nat, (n : Int) * n * n - n = 6 * N := by
  have h : ∃ N : Nat, n * n * n = 6 * N + n := by
    induction n with
    | zero => exact ⟨0, rfl⟩
    | succ n ih =>
      obtain ⟨N, hN⟩ := ih
      have two : ∃ M, n * n + n = 2 * M := by
        clear hN
        induction n with
        | zero => exact ⟨0, rfl⟩
        | succ n ih => obtain ⟨M, hM⟩ := ih; exact ⟨M + n + 1, by simp only [Nat.add_mul, Nat.mul_add, Nat.one_mul, Nat.mul_one] at *; lia⟩
      obtain ⟨M, hM⟩ := two
      refine ⟨N + M, ?_⟩
      have e : (n + 1) * (n + 1) * (n + 1) = n * n * n + 3 * (n * n + n) + 1 := by simp only [Nat.add_mul, Nat.mul_add, Nat.one_mul, Nat.mul_one]; lia
      rw [e, hN, hM]; lia
  obtain ⟨N, hN⟩ := h
  refine ⟨N, ?_⟩
  have : ((n * n * n : Nat) : Int) = 6 * N + n := by rw [hN]; push_cast; rfl
  push_cast at this
  lia
end Mine
end

-- LC
section
open PySem PySem.W PySem.Calls PyProof.Rows
set_option maxRecDepth 100000
namespace Mine
/-- the script's ints have tokens of their own -/
theorem lay_ints {R : WRecords} {cl : Str → Option Addr} {P : Params} {ord : List DictEntry → List DictEntry} : ∀ (xs : List Int) (s : Shared),
    ∃ zs : List (Int × Tok), layAllW R cl P ord (ofPys (xs.map PyData.int)) s = some (zs.map intV, { s with toks := s.toks + xs.length }) ∧ zs.map (·.1) = xs ∧ (zs.map (·.2)).Nodup ∧ ∀ z ∈ zs, @LE.le Nat _ s.toks z.2 ∧ @LT.lt Nat _ z.2 (s.toks + xs.length)
  | [], s => ⟨[], rfl, rfl, .nil, fun _ h => nomatch h⟩
  | x :: r, s => by
    obtain ⟨zs, h1, h2, h3, h4⟩ := lay_ints (R := R) (cl := cl) (P := P) (ord := ord) r { s with toks := s.toks + 1 }
    refine ⟨(x, s.toks) :: zs, ?_, by rw [List.map_cons, h2], ?_, fun z hz => ?_⟩
    · have e : layAllW R cl P ord (ofPys ((x :: r).map PyData.int)) s = (match layAllW R cl P ord (ofPys (r.map PyData.int)) { s with toks := s.toks + 1 } with | some r' => some (Value.int x s.toks :: r'.1, r'.2) | Option.none => Option.none) := by
        simp only [List.map_cons, ofPys, ofPy, layAllW, layW]
        cases layAllW R cl P ord (ofPys (r.map PyData.int)) { s with toks := s.toks + 1 } <;> rfl
      rw [e, h1]
      simp only [List.map_cons, List.length_cons, Option.some.injEq, Prod.mk.injEq, true_and]
      rw [show s.toks + 1 + r.length = s.toks + (r.length + 1) by lia]
    · rw [List.map_cons, List.nodup_cons]
      refine ⟨fun h => ?_, h3⟩
      obtain ⟨z, hz, e⟩ := List.mem_map.mp h
      have := (h4 z hz).1
      rw [show z.2 = s.toks from e] at this
      exact absurd this (Nat.not_succ_le_self _)
    · rcases List.mem_cons.mp hz with rfl | hz
      · simp
      · have := h4 z hz
        simp only [List.length_cons] at *
        lia
theorem laid_script {R : WRecords} {w : World} {s₀ s₁ : Shared} {xs : List Int} {a : Addr} {as : List Addr} {vs : List Value} (LD : Laid R w s₀ s₁ [ofPy (.list (xs.map .int))] [.ref a] as) (ht : 0 < s₀.toks) (hL : s₁.heap.IsList a vs.toArray) :
    ∃ zs : List (Int × Tok), vs = zs.map intV ∧ zs.map (·.1) = xs ∧ (zs.map (·.2)).Nodup ∧ (∀ z ∈ zs, @LT.lt Nat _ 0 z.2 ∧ @LT.lt Nat _ z.2 s₁.toks) ∧ 0 < s₁.toks := by
  obtain ⟨ord, _, h⟩ := LD.laid
  obtain ⟨zs, h1, h2, h3, h4⟩ := lay_ints (R := R) (cl := classAt s₀.heap) (P := w.params) (ord := ord) xs s₀
  rw [show ofPy (.list (xs.map PyData.int)) = WData.list (ofPys (xs.map PyData.int)) from rfl] at h
  simp only [layAllW, layW] at h
  rw [h1] at h
  simp only [Option.some.injEq, Prod.mk.injEq, List.cons.injEq, Value.ref.injEq, and_true] at h
  obtain ⟨rfl, rfl⟩ := h
  refine ⟨zs, ?_, h2, h3, fun z hz => ⟨by have := (h4 z hz).1; lia, (h4 z hz).2⟩, Nat.lt_of_lt_of_le ht (Nat.le_add_right _ _)⟩
  obtain ⟨o, ho, hc, n, hd⟩ := hL
  rw [Heap.get?_push_size _ rfl] at ho
  cases ho
  simp only [Data.seq.injEq] at hd
  exact (congrArg Array.toList hd.1).symm
section
variable {w : World} {A : Around} {E : Value → Shared → Prop} {s : Shared} {h₀ : Heap} {L : Addr} {m : Str → Option Value} {news : List (Addr × Obj)}
/-- a list made by a comprehension of which each turn makes more -/
theorem block_mk {elt iter : PySem.Expr} {x : Str} {px pos : Pos} {scope : Scope} {cl : List (Str × Addr)} {env : Env} {vs : List Value} {c : Nat} {ax : Addr} {J : Nat → List Value → List (Addr × Obj) → Nat → Prop} {RR : Value → Addr → Result → Shared → Prop}
    (hA : A.handled = none) (F : Fr h₀ L s.heap m) (N : News h₀ L s.heap news) (hm : (ax, listOf vs.toArray c) ∈ news) (h66 : vs.length ≤ 66)
    (hkind : scope.kind = .function)
    (hcell : ∀ y ∈ scope.names, y.2 ≠ .cell) (hx : scope.names.lookup x = some .local)
    (J0 : J 0 [] [] s.toks)
    (turn : ∀ k v I C D h tk oC m₂ (ys : List Value) TL (Q' E' : Value → Shared → Prop), k < vs.length → vs[k]? = some v → J k ys TL tk → (∀ q ∈ TL, @LT.lt Nat _ C q.1) → LCg.NsObj oC m₂ → m₂ x = some v → Fr h₀ L h m → News h₀ L h ((I, litObj ax ((k + 1 : Nat) : Int)) :: (C, oC) :: (D, listOf ys.toArray ys.length) :: (TL ++ news)) →
      (∀ q ∈ news, q.1 < I) → @LT.lt Nat _ I D → @LT.lt Nat _ D C →
      (∀ y h' tk' TL', J (k + 1) (ys ++ [y]) TL' tk' → (∀ q ∈ TL', @LT.lt Nat _ C q.1) → Fr h₀ L h' m → News h₀ L h' ((I, litObj ax ((k + 1 : Nat) : Int)) :: (C, oC) :: (D, listOf ys.toArray ys.length) :: (TL' ++ news)) → Q' y { s with heap := h', toks := tk' }) →
      wpAny (model PG w) A (eval elt (compEnvC scope cl C env)) Q' E' { s with heap := h, toks := tk + 1 })
    (fin : ∀ D C h tk (ys : List Value) oC mC TL, J vs.length ys TL tk → (∀ q ∈ TL, @LT.lt Nat _ C q.1) → Fr h₀ L h m → News h₀ L h ((C, oC) :: (D, listOf ys.toArray ys.length) :: (TL ++ news)) → h.Ns C mC → (∀ q ∈ news, @LT.lt Nat _ q.1 D) → @LT.lt Nat _ D C → RR (.ref D) C (.ok .next) { s with heap := h, toks := tk }) :
    wpAny (model PG w) A (pyIter (.ref ax)) (fun it s₂ => wpAny (model PG w) A (newList []) (fun acc s₃ => wpAny (model PG w) A (newFunctionEnv scope env.globals cl [] env.qual none .none (some env)) (fun cenv s₄ =>
      codeAny (model PG w) A (.compStart (.ListComp elt [⟨.Name x px, iter, [], 0⟩] scope pos) 0 it acc { cenv with scope := relabel scope env }) (RR acc cenv.locals) s₄) E s₃) E s₂) E s := by
  refine pyIter_led F N hm fun I h₁ F₁ N₁ l₁ => ?_
  refine wpAny_newObj_type ?_
  have F₂ := F₁.push (listOf #[] 0)
  have N₂ := News.push F₁ N₁ (listOf #[] 0) rfl
  have l₂ : @LT.lt Nat _ I h₁.objs.size := Heap.lt_size (N₁ _ (.head _)).1
  generalize hD : h₁.objs.size = D at F₂ N₂ l₂
  generalize hH : h₁.push (listOf #[] 0) = h₂ at F₂ N₂
  simp only [newFunctionEnv, Option.isSome_some, if_true]
  refine wpAny_bind (wpAny_alloc ?_)
  refine wpAny_bind (wpAny_layCells _ (fun name kind cells => by cases hkc : kind == NameKind.cell <;> simp [hkc]) _ _ _ _ ?_)
  rw [cells_none hcell, push_none hcell]
  have F₃ := F₂.push nsObj
  have N₃ := News.push F₂ N₂ nsObj rfl
  have ns₃ : (h₂.push nsObj).Ns h₂.objs.size fun _ => none := Heap.Ns.new h₂ (.type "dict")
  have l₃ : @LT.lt Nat _ D h₂.objs.size := Heap.lt_size (N₂ _ (.head _)).1
  generalize hC : h₂.objs.size = C at F₃ N₃ ns₃ l₃
  generalize hH3 : h₂.push nsObj = h₃ at F₃ N₃ ns₃
  simp only [List.forIn_nil, pure_bind]
  refine wpAny_pure ?_
  have hIC : @LT.lt Nat _ I C := Nat.lt_trans l₂ l₃
  have lN : ∀ q ∈ news, @LT.lt Nat _ q.1 D ∧ @LT.lt Nat _ q.1 C := fun q hq => ⟨Nat.lt_trans (l₁ q hq) l₂, Nat.lt_trans (l₁ q hq) hIC⟩
  have hCn := (N₃ (C, nsObj) (.head _))
  obtain ⟨oC₀, eC₀, xC₀⟩ := LCg.ns_obj ns₃
  rw [hCn.1] at eC₀
  cases eC₀
  have loop : codeAny (model PG w) A (.compLoop (.ListComp elt [⟨.Name x px, iter, [], 0⟩] scope pos) 0 (.ref I) (.ref D) (compEnvC scope cl C env)) (RR (.ref D) C) { s with heap := h₃ } := by
    refine codeAny_compLoop_tests
      (fun n s' => ∃ k h tk ys TL oC m₂, n = vs.length + 1 - k ∧ k ≤ vs.length ∧ List.length (α := Value) ys ≤ k ∧ J k ys TL tk ∧ (∀ q ∈ TL, @LT.lt Nat _ C q.1) ∧ LCg.NsObj oC m₂ ∧ Fr h₀ L h m ∧
        News h₀ L h ((I, litObj ax ((k : Nat) : Int)) :: (C, oC) :: (D, listOf (ys : List Value).toArray ys.length) :: (TL ++ news)) ∧ s' = { s with heap := h, toks := tk }) ?_ (vs.length + 1)
      ⟨0, h₃, s.toks, [], [], nsObj, _, rfl, Nat.zero_le _, Nat.le_refl _, J0, (fun _ h => nomatch h), xC₀, F₃, fun q hq => N₃ q ?_, rfl⟩
    · rintro n s' ⟨k, h, tk, ys, TL, oC, m₂, rfl, hk, hyl, hJ, hTL, hoC, F', N', rfl⟩
      have lTN : ∀ q ∈ TL ++ news, q.1 ≠ I ∧ q.1 ≠ C ∧ q.1 ≠ D := fun q hq => by
        rcases List.mem_append.mp hq with hq | hq
        · have a := hTL q hq
          exact ⟨Nat.ne_of_gt (Nat.lt_trans hIC a), Nat.ne_of_gt a, Nat.ne_of_gt (Nat.lt_trans l₃ a)⟩
        · exact ⟨Nat.ne_of_lt (l₁ q hq), Nat.ne_of_lt (lN q hq).2, Nat.ne_of_lt (lN q hq).1⟩
      have hl : h.IsList ax vs.toArray := N'.isList (.tail _ (.tail _ (.tail _ (List.mem_append_right _ hm))))
      by_cases hlt : k < vs.length
      · refine pyNext_lit (N' _ (.head _)).1 hl (x := vs[k]) (by simp [hlt]) fun h' hit hsame => ?_
        obtain ⟨F5, N5⟩ := news_upd F' N' (o' := litObj ax ((k + 1 : Nat) : Int)) (.head fun p hp => by
          rcases List.mem_cons.mp hp with rfl | hp
          · exact Nat.ne_of_gt hIC
          rcases List.mem_cons.mp hp with rfl | hp
          · exact Nat.ne_of_gt l₂
          · exact (lTN p hp).1) hsame hit
        refine wpAny_assign_Name (wpAny_storeName_local (lookup_relabel_local hx) (hoC.ns (N5 _ (.tail _ (.head _))).1) (fun h'' hn'' hs'' => ?_) (by simp [compEnvC, relabel, hkind]))
        obtain ⟨oC', heC, hoC'⟩ := LCg.ns_obj hn''
        obtain ⟨F6, N6⟩ := news_upd F5 N5 (.tail (Nat.ne_of_lt hIC) (.head fun p hp => by
          rcases List.mem_cons.mp hp with rfl | hp
          · exact Nat.ne_of_lt l₃
          · exact (lTN p hp).2.1)) hs'' heC
        refine wpAny_tests_nil ?_
        simp only [if_true]
        refine turn k vs[k] I C D h'' tk oC' _ ys TL _ _ hlt (by simp [hlt]) hJ hTL hoC' (by simp) F6 N6 l₁ l₂ l₃ fun y h7 tk7 TL' hJ' hTL' F7 N7 => ?_
        have lTN' : ∀ q ∈ TL' ++ news, q.1 ≠ D := fun q hq => by
          rcases List.mem_append.mp hq with hq | hq
          · exact Nat.ne_of_gt (Nat.lt_trans l₃ (hTL' q hq))
          · exact Nat.ne_of_lt (lN q hq).1
        refine append_led (D := D) F7 N7 (.tail (Nat.ne_of_lt l₂) (.tail (Nat.ne_of_gt l₃) (.head lTN'))) (by lia) fun h8 F8 N8 => ?_
        refine ⟨vs.length + 1 - (k + 1), by lia, k + 1, h8, tk7, ys ++ [y], TL', oC', _, rfl, hlt, by simp; lia, hJ', hTL', hoC', F8, by simpa using N8, rfl⟩
      · obtain rfl : k = vs.length := Nat.le_antisymm hk (Nat.not_lt.mp hlt)
        refine wpAny_pyNext_list_end hA (litObj_iter (N' _ (.head _)).1) hl (by simp) fun h' he => ?_
        have keep : ∀ q ∈ (C, oC) :: (D, listOf ys.toArray ys.length) :: (TL ++ news), h'.get? q.1 = some q.2 ∧ q.1 ≠ L ∧ h₀.get? q.1 = none := fun q hq => by
          refine ⟨he _ _ ?_ (N' q (.tail _ hq)).1, (N' q (.tail _ hq)).2⟩
          rcases List.mem_cons.mp hq with rfl | hq
          · exact Nat.ne_of_gt hIC
          rcases List.mem_cons.mp hq with rfl | hq
          · exact Nat.ne_of_gt l₂
          · exact (lTN q hq).1
        have F9 : Fr h₀ L h' m := ⟨F'.ns.at' fun o e => he L o (Ne.symm (N' _ (.head _)).2.1) e, fun b o e => he b o (fun z => by rw [z, (N' _ (.head _)).2.2] at e; cases e) (F'.keep b o e), F'.above⟩
        exact fin D C h' tk ys oC m₂ TL hJ hTL F9 keep (hoC.ns (keep _ (.head _)).1) (fun q hq => (lN q hq).1) l₃
    · rcases List.mem_cons.mp hq with rfl | hq
      · exact .tail _ (.tail _ (.head _))
      rcases List.mem_cons.mp hq with rfl | hq
      · exact .head _
      rcases List.mem_cons.mp hq with rfl | hq
      · exact .tail _ (.head _)
      · exact .tail _ (.tail _ (.tail _ hq))
  exact codeAny_compStart_list loop (wpAny_pyIter_listiter (litObj_iter (N₃ _ (.tail _ (.tail _ (.head _)))).1) loop)
end
end Mine
end

-- LT
section
open PySem PySem.W PySem.Calls PyProof.Rows
set_option maxRecDepth 100000
namespace Mine
theorem add_base {w : World} {A : Around} {E : Value → Shared → Prop} {s : Shared} {h₀ : Heap} {L a b : Addr} {m : Str → Option Value} {news : List (Addr × Obj)} {Q : Value → Shared → Prop} {xs ys : List Value} {c : Nat} (F : Fr h₀ L s.heap m) (N : News h₀ L s.heap news)
    (ma : (a, listOf xs.toArray c) ∈ news) (hb : h₀.IsList b ys.toArray) (h66 : xs.length + ys.length ≤ 200)
    (h : ∀ D h', Fr h₀ L h' m → News h₀ L h' ((D, listOf (xs ++ ys).toArray 0) :: news) → (∀ q ∈ news, q.1 < D) → Q (.ref D) { s with heap := h' }) : wpAny (model PG w) A (binaryOp .Add (.ref a) (.ref b)) Q E s :=
  add_lists F N (N.isList ma) (by obtain ⟨o, h1, h2⟩ := hb; exact ⟨o, F.keep _ _ h1, h2⟩) (fun h' F' N' => h _ h' F' N' (fun q hq => Heap.lt_size (N q hq).1)) (by rw [sizeLine_eq]; lia)
/-- the numbers of the law, each with a token of its own -/
structure Nums (zs : List (Int × Tok)) (tk : Nat) : Prop where
  first : ∃ t1 t2 t3 r, zs = (5, t1) :: (-2, t2) :: (40, t3) :: r
  unlike : (zs.map (·.2)).Nodup
  tok : ∀ z ∈ zs, @LT.lt Nat _ 0 z.2 ∧ @LT.lt Nat _ z.2 tk
  len : zs.length ≤ 66
theorem nums_of {zs : List (Int × Tok)} {t : Nat} (nd : (zs.map (·.2)).Nodup) (tk : ∀ z ∈ zs, @LT.lt Nat _ 0 z.2 ∧ @LT.lt Nat _ z.2 t) (h63 : zs.length ≤ 63) (h0 : 0 < t) : Nums ((5, t + 1) :: (-2, t + 1 + 1 + 1) :: (40, t + 1 + 1 + 1 + 1) :: zs) (t + 1 + 1 + 1 + 1 + 1) := by
  have no : ∀ u : Nat, t ≤ u → u ∉ zs.map (·.2) := fun u hu h => by
    obtain ⟨z, hz, e⟩ := List.mem_map.mp h
    have := (tk z hz).2
    rw [show z.2 = u from e] at this
    lia
  refine ⟨⟨_, _, _, _, rfl⟩, ?_, fun z hz => ?_, by simp only [List.length_cons]; lia⟩
  · simp only [List.map_cons, List.nodup_cons, List.mem_cons, not_or]
    exact ⟨⟨Nat.ne_of_lt (by lia), Nat.ne_of_lt (by lia), no _ (by lia)⟩, ⟨Nat.ne_of_lt (by lia), no _ (by lia)⟩, no _ (by lia), nd⟩
  · rcases List.mem_cons.mp hz with rfl | hz
    · exact ⟨Nat.succ_pos _, by show t + 1 < _; lia⟩
    rcases List.mem_cons.mp hz with rfl | hz
    · exact ⟨Nat.succ_pos _, by show t + 1 + 1 + 1 < _; lia⟩
    rcases List.mem_cons.mp hz with rfl | hz
    · exact ⟨Nat.succ_pos _, by show t + 1 + 1 + 1 + 1 < _; lia⟩
    · have := tk z hz
      exact ⟨this.1, Nat.lt_of_lt_of_le this.2 (by lia)⟩
/-- what the comprehension of the pairs keeps -/
structure PJ (zs : List (Int × Tok)) (k : Nat) (ys : List Value) (TL : List (Addr × Obj)) (tk : Nat) (ps : List Duo) : Prop where
  vals : ys = ps.map Duo.val
  are : ps.map (fun z => (z.q, z.u)) = zs.take k
  mod : ∀ z ∈ ps, z.p = z.q.fmod 3
  led : TL = (ps.map fun z => (z.at', z.obj)).reverse
  apart : (ps.map (·.at')).Nodup
  t : (ps.map (·.t)).Nodup
  tok : ∀ z ∈ ps, @LT.lt Nat _ 0 z.t ∧ @LT.lt Nat _ z.t tk
  low : 0 < tk
theorem of_allLt {d : Addr} {l : List (Addr × Obj)} (h : AllLt d l) : ∀ q ∈ l, @LT.lt Nat _ q.1 d := by
  induction l with
  | nil => exact fun _ h => nomatch h
  | cons p r ih =>
    intro q hq
    rcases List.mem_cons.mp hq with rfl | hq
    · exact h.1
    · exact ih h.2 q hq
/-- a comprehension's end, as a name, behind more makes -/
theorem comp_end_mk {w : World} {A : Around} {E : Value → Shared → Prop} {s : Shared} {h₀ : Heap} {L : Addr} {m : Str → Option Value} {news : List (Addr × Obj)} {C D : Addr} {h : Heap} {tk : Nat} {oC : Obj} {mC : Str → Option Value} {oD : Obj} {y : Str} {py : Pos} {env : Env} {Q : Value → Shared → Prop} (F : Fr h₀ L h m) (N : News h₀ L h ((C, oC) :: (D, oD) :: news)) (hn : h.Ns C mC) (l : ∀ q ∈ news, q.1 ≠ C) (lD : D ≠ C)
    (hLe : env.locals = L) (hy : env.kindOf y = some .local) (hp : (env.scope.kind == .class || (env.scope.kind == .module && env.locals != env.globals)) = false)
    (hQ : ∀ h', Fr h₀ L h' (fun z => if z = y then some (.ref D) else m z) → News h₀ L h' ((D, oD) :: news) → Q .none { s with heap := h', toks := tk + 1 }) : compPost (model PG w) A E (some (assign (.Name y py) env)) Q (.ref D) C (.ok .next) { s with heap := h, toks := tk } := by
  subst hLe
  have hC := N _ (.head _)
  show wpAny _ A (assign (.Name y py) env (.ref D)) _ _ _
  refine wpAny_assign_Name (wpAny_storeName_local hy F.ns (fun h₂ hn₂ hs₂ => ?_) hp)
  refine ⟨mC, hn.sameBut hs₂ hC.2.1, fun h'' hs'' => hQ h'' ?_ fun q hq => ?_⟩
  · refine Fr.change (d := C) ⟨hn₂, fun b o e => (hs₂.2 b ?_).trans (F.keep b o e), F.above⟩ hs'' hC.2.1 hC.2.2
    exact Nat.ne_of_lt (Nat.lt_of_lt_of_le (Heap.lt_size e) F.above)
  · have z := N q (.tail _ hq)
    refine ⟨(hs''.2 q.1 ?_).trans ((hs₂.2 q.1 z.2.1).trans z.1), z.2⟩
    rcases List.mem_cons.mp hq with rfl | hq
    · exact lD
    · exact l q hq
theorem PJ.step {zs : List (Int × Tok)} {k : Nat} {ys : List Value} {TL : List (Addr × Obj)} {tk : Nat} {ps : List Duo} {z : Int × Tok} {D : Addr} (J : PJ zs k ys TL tk ps) (hz : zs[k]? = some z) (hD : ∀ q ∈ TL, @LT.lt Nat _ q.1 D) :
    PJ zs (k + 1) (ys ++ [.ref D]) ((D, pairObj (.int (z.1.fmod 3) (tk + 1 + 1)) (intV z)) :: TL) (tk + 1 + 1 + 1) (ps ++ [⟨D, z.1.fmod 3, z.1, tk + 1 + 1, z.2⟩]) := by
  refine ⟨by rw [J.vals, List.map_append]; rfl, by rw [List.map_append, J.are, List.take_add_one, hz]; rfl, fun y hy => ?_, by rw [J.led, List.map_append, List.reverse_append]; rfl, ?_, ?_, fun y hy => ?_, Nat.succ_pos _⟩
  · rcases List.mem_append.mp hy with hy | hy
    · exact J.mod y hy
    · rw [List.mem_singleton.mp hy]
  · rw [List.map_append, List.nodup_append]
    refine ⟨J.apart, by simp, fun a ha b hb => ?_⟩
    obtain ⟨y, hy, rfl⟩ := List.mem_map.mp ha
    obtain rfl : b = D := by simpa using hb
    refine Nat.ne_of_lt (hD (y.at', y.obj) ?_)
    rw [J.led, List.mem_reverse]
    exact List.mem_map.mpr ⟨y, hy, rfl⟩
  · rw [List.map_append, List.nodup_append]
    refine ⟨J.t, by simp, fun a ha b hb => ?_⟩
    obtain ⟨y, hy, rfl⟩ := List.mem_map.mp ha
    obtain rfl : b = tk + 1 + 1 := by simpa using hb
    exact Nat.ne_of_lt (Nat.lt_of_lt_of_le (J.tok y hy).2 (by lia))
  · rcases List.mem_append.mp hy with hy | hy
    · exact ⟨(J.tok y hy).1, Nat.lt_of_lt_of_le (J.tok y hy).2 (by lia)⟩
    · rw [List.mem_singleton.mp hy]
      exact ⟨Nat.succ_pos _, Nat.lt_succ_self _⟩
theorem small_mod (q : Int) : smallInt (q.fmod 3) = true := by
  have a := Int.fmod_nonneg_of_pos q (b := 3) (by decide)
  have b := Int.fmod_lt_of_pos q (b := 3) (by decide)
  generalize q.fmod 3 = r at a b
  have : r = 0 ∨ r = 1 ∨ r = 2 := by lia
  rcases this with rfl | rfl | rfl <;> rfl
theorem PJ.duos {zs : List (Int × Tok)} {ys : List Value} {TL : List (Addr × Obj)} {tk t0 : Nat} {ps : List Duo} {b : Heap} (J : PJ zs zs.length ys TL tk ps) (NU : Nums zs t0) (h : ∀ q ∈ TL, b.get? q.1 = some q.2) : Duos b ps := by
  have e : ps.map (fun z => (z.q, z.u)) = zs := by rw [J.are, List.take_length]
  have eu : ps.map (·.u) = zs.map (·.2) := by rw [← e, List.map_map]; rfl
  refine ⟨fun z hz => h (z.at', z.obj) ?_, J.apart, J.t, eu ▸ NU.unlike, fun z hz => Nat.ne_of_gt (J.tok z hz).1, fun z hz => ?_, fun z hz => by rw [J.mod z hz]; exact small_mod _⟩
  · rw [J.led, List.mem_reverse]
    exact List.mem_map.mpr ⟨z, hz, rfl⟩
  · have : (z.q, z.u) ∈ zs := e ▸ List.mem_map.mpr ⟨z, hz, rfl⟩
    exact Nat.ne_of_gt (NU.tok _ this).1
theorem PJ.fit {w : World} {zs : List (Int × Tok)} {ys : List Value} {TL : List (Addr × Obj)} {tk t0 : Nat} {ps : List Duo} (J : PJ zs zs.length ys TL tk ps) (NU : Nums zs t0) : Fits w TL ys := by
  have DD := fun (b : Heap) => J.duos (b := b) NU
  have ap := J.apart
  have e : ps.map (fun z => (z.q, z.u)) = zs := by rw [J.are, List.take_length]
  obtain ⟨t1, t2, t3, r, rfl⟩ := NU.first
  rw [J.vals]
  rcases ps with _ | ⟨a, _ | ⟨b, _ | ⟨c, r'⟩⟩⟩
  · simp at e
  · simp at e
  · simp at e
  · simp only [List.map_cons, List.cons.injEq, Prod.mk.injEq] at e
    obtain ⟨⟨e1, _⟩, ⟨e2, _⟩, ⟨e3, _⟩, _⟩ := e
    exact fit_pairs _ rfl (by rw [e1, e2]; decide) (by rw [e1, e3]; decide) (by rw [e2, e3]; decide) ap DD J.mod
theorem Nums.fit {w : World} {TL : List (Addr × Obj)} {zs : List (Int × Tok)} {tk : Nat} (NU : Nums zs tk) : Fits w TL (zs.map intV) := by
  have NU' := NU
  obtain ⟨t1, t2, t3, r, rfl⟩ := NU.first
  exact fit_ints _ rfl NU'.unlike fun z hz => Nat.ne_of_gt (NU'.tok z hz).1
theorem Nums.mono {zs : List (Int × Tok)} {t t' : Nat} (NU : Nums zs t) (h : t ≤ t') : Nums zs t' := ⟨NU.first, NU.unlike, fun z hz => ⟨(NU.tok z hz).1, Nat.lt_of_lt_of_le (NU.tok z hz).2 h⟩, NU.len⟩
abbrev strV (z : Str × Tok) : Value := .str z.1 z.2
abbrev tex (z : Int × Tok) : Str := Str.ofString (toString (z.1.fmod (10 ^ Int.toNat 6)))
/-- what the comprehension of the texts keeps -/
structure TJ (zs : List (Int × Tok)) (k : Nat) (ys : List Value) (TL : List (Addr × Obj)) (tk : Nat) : Prop where
  led : TL = []
  are : ∃ ts : List (Str × Tok), ys = ts.map strV ∧ ts.map (·.1) = (zs.take k).map tex ∧ (ts.map (·.2)).Nodup ∧ ∀ z ∈ ts, @LT.lt Nat _ 0 z.2 ∧ @LT.lt Nat _ z.2 tk
theorem TJ.zero {zs : List (Int × Tok)} {tk : Nat} : TJ zs 0 [] [] tk := ⟨rfl, [], rfl, rfl, .nil, fun _ h => nomatch h⟩
theorem TJ.step {zs : List (Int × Tok)} {k : Nat} {ys : List Value} {TL : List (Addr × Obj)} {tk : Nat} {z : Int × Tok} {t : Nat} (J : TJ zs k ys TL tk) (hz : zs[k]? = some z) (ht : tk < t) : TJ zs (k + 1) (ys ++ [.str (tex z) t]) TL (t + 1) := by
  obtain ⟨ts, h1, h2, h3, h4⟩ := J.are
  refine ⟨J.led, ts ++ [(tex z, t)], by rw [h1, List.map_append]; rfl, by rw [List.map_append, h2, List.take_add_one, hz, List.map_append]; rfl, ?_, fun y hy => ?_⟩
  · rw [List.map_append, List.nodup_append]
    refine ⟨h3, by simp, fun a ha b hb => ?_⟩
    obtain ⟨y, hy, rfl⟩ := List.mem_map.mp ha
    obtain rfl : b = t := by simpa using hb
    exact Nat.ne_of_lt (Nat.lt_trans (h4 y hy).2 ht)
  · rcases List.mem_append.mp hy with hy | hy
    · exact ⟨(h4 y hy).1, Nat.lt_succ_of_lt (Nat.lt_trans (h4 y hy).2 ht)⟩
    · rw [List.mem_singleton.mp hy]
      exact ⟨Nat.lt_of_le_of_lt (Nat.zero_le _) ht, Nat.lt_succ_self _⟩
theorem TJ.fit {w : World} {zs : List (Int × Tok)} {ys : List Value} {TL : List (Addr × Obj)} {T2 : List (Addr × Obj)} {tk t0 : Nat} (J : TJ zs zs.length ys TL tk) (NU : Nums zs t0) : Fits w T2 ys := by
  obtain ⟨ts, h1, h2, h3, h4⟩ := J.are
  obtain ⟨t1, t2, t3, r, rfl⟩ := NU.first
  rw [List.take_length] at h2
  rw [h1]
  rcases ts with _ | ⟨a, _ | ⟨b, _ | ⟨c, r'⟩⟩⟩
  · simp at h2
  · simp at h2
  · simp at h2
  · simp only [List.map_cons, List.cons.injEq] at h2
    obtain ⟨e1, e2, e3, _⟩ := h2
    have n1 : Str.ofString (toString ((5 : Int).fmod (10 ^ Int.toNat 6))) ≠ Str.ofString (toString ((-2 : Int).fmod (10 ^ Int.toNat 6))) := by decide +kernel
    have n2 : Str.ofString (toString ((5 : Int).fmod (10 ^ Int.toNat 6))) ≠ Str.ofString (toString ((40 : Int).fmod (10 ^ Int.toNat 6))) := by decide +kernel
    have n3 : Str.ofString (toString ((-2 : Int).fmod (10 ^ Int.toNat 6))) ≠ Str.ofString (toString ((40 : Int).fmod (10 ^ Int.toNat 6))) := by decide +kernel
    exact fit_strs _ rfl (by rw [e1, e2]; exact n1) (by rw [e1, e3]; exact n2) (by rw [e2, e3]; exact n3) h3 fun z hz => Nat.ne_of_gt (h4 z hz).1
theorem TJ.length {zs : List (Int × Tok)} {k : Nat} {ys : List Value} {TL : List (Addr × Obj)} {tk : Nat} (J : TJ zs k ys TL tk) (h : k ≤ 66) : ys.length ≤ 66 := by
  obtain ⟨ts, h1, h2, _⟩ := J.are
  have := congrArg List.length h2
  simp only [List.length_map, List.length_take] at this
  rw [h1, List.length_map]; lia
theorem PJ.length {zs : List (Int × Tok)} {k : Nat} {ys : List Value} {TL : List (Addr × Obj)} {tk : Nat} {ps : List Duo} (J : PJ zs k ys TL tk ps) (h : k ≤ 66) : ys.length ≤ 66 := by
  have := congrArg List.length J.are
  simp only [List.length_map, List.length_take] at this
  rw [J.vals, List.length_map]; lia
section
variable {s : Shared} {w : World} {p : Program} {loose : List Str} {mean : ExcName → Option Value} {mg mb : Str → Option Value} {A₀ A : Around} {base h₀ g g' h h' : Heap} {outer : List Env} {L a : Addr} {m : Str → Option Value} {env env' : Env} {V V' W : List (Addr × Obj)} {E : Value → Shared → Prop}
/-- a contract that leans on the rest of the ledger -/
theorem use_doesW {need : Nat} {f : Addr} {args : List Value} {kw : List (Str × Value)} {P : Option Value → List (Addr × Obj) → Prop} {W₀ : List (Addr × Obj)} {Q : Value → Shared → Prop} {dp un : Nat} {gd : Option (List Code)}
    (C : ∀ b₂ : Heap, base.StaysIn b₂ → (∀ q ∈ W, b₂.get? q.1 = some q.2) → DoesA w need b₂ f ⟨args, kw⟩ V P) (B : Below A₀ base outer h₀) (F : Fr h₀ L s.heap m) (X₀ : (hd.heap_39 w.params).In h₀) (N : News h₀ L s.heap W₀) (T : Top p loose mean mg mb h₀) (XB : (hd.heap_39 w.params).In base) (TB : Top p loose mean mg mb base)
    (D : KtsDicts (outer.filterMap (·.frame)) h₀) (hA : A = kAt dp un gd (env :: outer)) (hf : env.frame = some L) (hck : env.scope.kind = .function)
    (hV : ∀ q ∈ V, q ∈ W₀) (hW : ∀ q ∈ W, q ∈ W₀) (hN : ∀ q ∈ W, ∀ r ∈ V, q.1 ≠ r.1) (hdp : dp + need < recursionLimit) (hu : un + 10 * need < cLine) (hP0 : ∀ V', ¬ P none V')
    (hQ : ∀ h₀' h' tk' v V', P (some v) V' → KtsTurn (outer.filterMap (·.frame)) h₀ h₀' → Fr h₀' L h' m → News h₀' L h' (V' ++ W) → (∀ q ∈ W, ∀ r ∈ V', q.1 ≠ r.1) → Below A₀ base outer h₀' → (hd.heap_39 w.params).In h₀' → Top p loose mean mg mb h₀' → KtsDicts (outer.filterMap (·.frame)) h₀' →
      Q v { s with heap := h', toks := tk' }) :
    wpAny (model PG w) A (call (.ref f) args kw) Q E s := by
  subst hA
  obtain ⟨gg, b₂, S', V1, st, hw, back⟩ := bridgeE (A := kAt dp un gd (env :: outer)) B F X₀ N T XB TB D rfl hf hck hV hW hN
  refine wpAny_call (C b₂ st hw S' V1 hdp hu (fun g' h' tk' v V' hP T' SV => ?_) fun h' tk' e V' hP _ => absurd hP (hP0 V'))
  obtain ⟨h₀', T₂, F', N', B', X', T'', D', n'⟩ := back g' h' V' T' SV
  exact hQ h₀' h' tk' v V' hP T₂ F' N' n' B' X' T'' D'
end
theorem tex_small (q : Int) : (q.fmod (10 ^ Int.toNat 6)).natAbs.log2 < 1920 := by
  have e : ((10 : Int) ^ Int.toNat 6) = 1000000 := by decide
  have a := Int.fmod_nonneg_of_pos q (b := 1000000) (by decide)
  have b := Int.fmod_lt_of_pos q (b := 1000000) (by decide)
  rw [e]
  exact shown (N := 1000000) (by lia) b (by decide +kernel)
local macro_rules | `(tactic| walk_at "exec Assign cons ListComp") => `(tactic| refine hold ?_)
local macro_rules | `(tactic| walk_at "binaryOp Add ref ref") => `(tactic| refine hold ?_)
set_option maxHeartbeats 8000000 in
theorem law_holds : PySem.Challenge.rw_kp0017_01.Holds := by
  w_on
  refine holds_law law_said fun said => ?_
  refine open_holds (q := hd.view_39) (loose := ["groupby", "_grouper", "count", "itemgetter", "_rank", "correlation"]) (Xt := fun s => xlAt hd.view_39 [] s && recOk (RowW.records (OpenRow.toRowW (OpenLaw.row PySem.Challenge.rw_kp0017_01))) s) (XP := XL hd.view_39 []) (Yf := hd.hook.obs) (Ya := hd.hook.val) (YP := hd.hook.says) (N := 4402)
    hd.left hd.hook.of hd.hook.keeps (fun s e => xl_of s (Bool.and_eq_true_iff.mp e).1) XL.keeps (by rfl) (by rfl) (by rfl) (fun s e => recFacts_of (Bool.and_eq_true_iff.mp e).2) (by rfl) (by assumption) (by decide +kernel) ⟨rfl, rfl, rfl, rfl, rfl, by decide +kernel⟩ ?hw ?hc
  case hw => w_witness2
  (rename OpenRow.wellSaid _ = true => said; clear said)
  intro w s₀ s₁ mg mb G Y fa o pm cd doc dV kV ho hdd hcd hD hmg hg args vals as hpre hlay hrd hwl hlo LD ht
  have KX : (hd.heap_39 w.params).In s₁.heap := Y
  revert KX; k_fill; intro KX
  refine Ground.open G ?_
  intro T B D TE TW
  (try (refine guard_noD D (by decide +kernel) ?_; clear D))
  obtain ⟨_, _, M⟩ := bmod_of_top T
  have TA := at_of_top T
  (try (obtain ⟨_, _, he, B0⟩ := based_of_top T rfl hmg ho hdd; have he' : cd = _ := he; subst he'; clear he))
  clear hmg
  wrow_args hpre hlay hrd hwl hlo
  (first | refine callC_kw (enter_call ?_) | refine enter_call ?_ | refine callC_kw (enter_callW ?_) | refine enter_callW ?_)
  w_top on
  (try refine codeAny_mono ?_ (fun _ _ g => GoodW.toG g))
  have K0 := below_caller (Top.heap T)
  w_call any ho hdd hcd hD T F
  clear hdd TA
  k_drop
  rename Heap.IsList _ _ _ => hL
  rename IntsAre _ _ => hI
  (rename Below _ _ _ _ => K9)
  (try clear B)
  have B : Below callerA s₁.heap [] s₁.heap := K9
  clear K9
  (try clear TE); (try clear TW)
  rename ¬ _ => hcond
  rename Fr _ _ _ _ => F
  rename News _ _ _ _ => N
  have X := KX
  have XB := KX
  obtain ⟨pv, loose, T⟩ : ∃ pp ll, Top pp ll (ExcName.means s₀.heap) mg mb s₁.heap := ⟨_, _, T⟩
  have TB := T
  have KD : KtsDicts (([] : List Env).filterMap (·.frame)) s₁.heap := fun _ h => nomatch h
  obtain ⟨zs0, hvs, hx0, nd0, tk0, ht1⟩ := laid_script LD ht hL
  subst hvs
  rw [← hx0, List.length_map] at hcond
  clear hI LD Y KX hcd hD G
  (all_goals try k_fold)
  (repeat' (first | (k_unfold; (try dsimp only)) | (k_end; kc_close) | (with_reducible ((k_here; (try k_gentoks); (with_reducible refine wpAny_execs_cons ?_); (try dsimp only); (try k_fold)))) | walk1 | (dsimp only; walk1) | (leave1; (try dsimp only))))
  refine ⟨?_⟩
  rename News _ _ _ _ => N1
  rename Fr _ _ _ _ => F1
  refine add_base F1 N1 (.head _) hL (by simp; lia) ?_
  intro D h2 F2 N2 l2
  simp only [List.length_cons, List.length_nil, Nat.zero_add, Nat.add_zero] at F2 N2 ⊢
  have NU := nums_of nd0 tk0 (by lia) ht1
  rw [show List.cons (Value.int 5 (s₁.toks + 1)) (Value.int (-2) (s₁.toks + 1 + 1 + 1) :: Value.int 40 (s₁.toks + 1 + 1 + 1 + 1) :: []) ++ zs0.map intV = ((5, s₁.toks + 1) :: (-2, s₁.toks + 1 + 1 + 1) :: (40, s₁.toks + 1 + 1 + 1 + 1) :: zs0).map intV from rfl] at N2
  generalize hzs : (((5, s₁.toks + 1) :: (-2, s₁.toks + 1 + 1 + 1) :: (40, s₁.toks + 1 + 1 + 1 + 1) :: zs0) : List (Int × Tok)) = zs at N2 NU
  clear F1 N1 tk0 nd0 hL hzs
  have N3 : News s₁.heap s₁.heap.objs.size h2 [(D, listOf (zs.map intV).toArray 0)] := fun q hq => N2 q (by rw [List.mem_singleton.mp hq]; exact .head _)
  clear N2 l2
  walk1
  dsimp only
  generalize htk : s₁.toks + 1 + 1 + 1 + 1 + 1 + 1 = tk
  replace NU : Nums zs tk := ⟨NU.first, NU.unlike, fun z hz => ⟨(NU.tok z hz).1, Nat.lt_of_lt_of_le (NU.tok z hz).2 (by lia)⟩, NU.len⟩
  have htp : 0 < tk := by lia
  clear htk
  (repeat' (first | (k_unfold; (try dsimp only)) | (k_end; kc_close) | (with_reducible ((k_here; (try k_gentoks); (with_reducible refine wpAny_execs_cons ?_); (try dsimp only); (try k_fold)))) | walk1 | (dsimp only; walk1) | (leave1; (try dsimp only))))
  refine ⟨?_⟩
  rename Fr _ _ _ _ => F3
  rename News _ _ _ _ => N3
  refine comp_assign (ax := D) (by with_unfolding_all rfl) (by with_unfolding_all rfl) rfl (by decide) ?hi ?_
  case hi =>
    intro Q2 hQ2
    k_steps
    exact hQ2
  refine block_mk (vs := zs.map intV) (c := 0) (J := fun k ys TL tk => ∃ ps, PJ zs k ys TL tk ps) (RR := fun acc C => compPost (model PG w) _ _ _ _ acc C) rfl F3 N3 (.head _) (by rw [List.length_map]; exact NU.len) rfl (by decide) rfl ⟨[], rfl, rfl, (fun _ h => nomatch h), rfl, .nil, .nil, (fun _ h => nomatch h), htp⟩ ?turn1 ?fin1
  case turn1 =>
    intro k v I C D2 h3 tk3 oC m2 ys TL Q2 E2 hk hv hJ hTL hns hm2 F4 N4 l40 l41 l42 hy
    clear F3 N3
    rw [List.length_map] at hk
    obtain ⟨tv, rfl⟩ : ∃ z, v = intV z := ⟨zs[k], by rw [List.getElem?_map, List.getElem?_eq_getElem hk] at hv; exact (Option.some.inj hv).symm⟩
    k_steps
    rename News _ _ _ _ => N5
    rename Fr _ _ _ _ => F5
    rename _ ∧ _ => l5
    obtain ⟨ps, hJ⟩ := hJ
    have hz : zs[k]? = some tv := by
      rw [List.getElem?_map, Option.map_eq_some_iff] at hv
      obtain ⟨z, hz, e⟩ := hv
      obtain ⟨z1, z2⟩ := z
      obtain ⟨v1, v2⟩ := tv
      simp only [intV, Value.int.injEq] at e
      rw [hz, e.1, e.2]
    refine hy _ _ _ _ ⟨_, hJ.step hz fun q hq => of_allLt l5.2.2.2 q (List.mem_append_left _ hq)⟩ (fun q hq => ?_) F5 fun q hq => N5 q ?_
    · rcases List.mem_cons.mp hq with rfl | hq
      · exact l5.2.1
      · exact hTL q hq
    · simp only [List.mem_cons, List.cons_append] at hq ⊢
      rcases hq with h | h | h | h | h
      · exact .inr (.inl h)
      · exact .inr (.inr (.inl h))
      · exact .inr (.inr (.inr (.inl h)))
      · exact .inl h
      · exact .inr (.inr (.inr (.inr h)))
  case fin1 =>
    intro D3 C3 h4 tk4 ys oC4 mC4 TL hJ hTL F4 N4 hn4 l40 l41
    clear F3 N3
    obtain ⟨ps, hJ⟩ := hJ
    rw [List.length_map] at hJ
    refine comp_end_mk F4 N4 hn4 (fun q hq => ?_) (Nat.ne_of_lt l41) rfl rfl rfl fun h7 F7 N7 => ?_
    · rcases List.mem_append.mp hq with hq | hq
      · exact Nat.ne_of_gt (hTL q hq)
      · exact Nat.ne_of_lt (Nat.lt_trans (l40 q hq) l41)
    clear F4 N4 hn4
    dsimp only
    have N8 : News s₁.heap s₁.heap.objs.size h7 ((D, listOf (zs.map intV).toArray 0) :: (D3, listOf ys.toArray ys.length) :: TL) := fun q hq => N7 q (by
      simp only [List.mem_cons, List.mem_append] at hq ⊢
      rcases hq with h | h | h
      · exact .inr (.inr (.inl h))
      · exact .inl h
      · exact .inr (.inl h))
    clear N7
    (repeat' (first | (k_unfold; (try dsimp only)) | (k_end; kc_close) | (with_reducible ((k_here; (try k_gentoks); (with_reducible refine wpAny_execs_cons ?_); (try dsimp only); (try k_fold)))) | walk1 | (dsimp only; walk1) | (leave1; (try dsimp only))))
    refine ⟨?_⟩
    rename Fr _ _ _ _ => F8
    rename News _ _ _ _ => N8
    refine comp_assign (ax := D) (by with_unfolding_all rfl) (by with_unfolding_all rfl) rfl (by decide) ?hi ?_
    case hi =>
      intro Q2 hQ2
      k_steps
      exact hQ2
    refine block_mk (vs := zs.map intV) (c := 0) (J := fun k ys TL tk => TJ zs k ys TL tk) (RR := fun acc C => compPost (model PG w) _ _ _ _ acc C) rfl F8 N8 (.head _) (by rw [List.length_map]; exact NU.len) rfl (by decide) rfl TJ.zero ?turn2 ?fin2
    case turn2 =>
      intro k v I C D2 h3 tk3 oC m2 ys TL' Q2 E2 hk hv hJ' hTL' hns hm2 F4 N4 l40 l41 l42 hy
      clear F8 N8
      rw [List.length_map] at hk
      obtain ⟨tv, rfl⟩ : ∃ z, v = intV z := ⟨zs[k], by rw [List.getElem?_map, List.getElem?_eq_getElem hk] at hv; exact (Option.some.inj hv).symm⟩
      (repeat' (first | (k_unfold; (try dsimp only)) | (k_end; kc_close) | (with_reducible ((k_here; (with_reducible show wpAny _ _ (call (Value.type "str") [Value.int _ _]) _ _ _); refine P.str_of_int (tex_small _) ?_))) | walk1 | (dsimp only; walk1) | (leave1; (try dsimp only))))
      have hz : zs[k]? = some tv := by
        rw [List.getElem?_map, Option.map_eq_some_iff] at hv
        obtain ⟨z, hz, e⟩ := hv
        obtain ⟨z1, z2⟩ := z
        obtain ⟨v1, v2⟩ := tv
        simp only [intV, Value.int.injEq] at e
        rw [hz, e.1, e.2]
      exact hy _ _ _ _ (hJ'.step (t := tk3 + 1 + 1 + 1 + 1 + 1) hz (by lia)) hTL' F4 N4
    case fin2 =>
      intro D4 C4 h9 tk9 ts oC9 mC9 TL' hJ' hTL' F9 N9 hn9 l90 l91
      clear F8 N8
      rw [List.length_map] at hJ'
      obtain rfl := hJ'.led
      refine comp_end_mk F9 N9 hn9 (fun q hq => ?_) (Nat.ne_of_lt l91) rfl rfl rfl fun h10 F10 N10 => ?_
      · exact Nat.ne_of_lt (Nat.lt_trans (l90 q hq) l91)
      clear F9 N9 hn9
      dsimp only
      simp only [List.nil_append] at N10
      (repeat' (first | (k_unfold; (try dsimp only)) | (k_end; kc_close) | (with_reducible ((k_here; (try k_gentoks); (with_reducible refine wpAny_execs_cons ?_); (try dsimp only); (try k_fold)))) | walk1 | (dsimp only; walk1) | (leave1; (try dsimp only))))
      refine ⟨wpAny_For ?_⟩
      k_steps
      rename News _ _ _ _ => N11
      rename Fr _ _ _ _ => F11
      rename _ ∧ _ => l11
      rename_i lw _
      have TH : ∀ (k : Nat) (v : Value), [Value.ref D, Value.ref D3, Value.ref D4][k]? = some v → ∃ (lt : Addr) (vs : List Value) (c : Nat), v = Value.ref lt ∧ (lt, listOf vs.toArray c) ∈ ((lw, listOf #[Value.ref D, Value.ref D3, Value.ref D4] 0) :: (D4, listOf ts.toArray ts.length) :: (D, listOf (zs.map intV).toArray 0) :: (D3, listOf ys.toArray ys.length) :: TL) ∧
          vs.length ≤ 66 ∧ (∀ q ∈ TL, q.1 ≠ lt) ∧ Fits w TL vs := by
        have l0 := l40 _ (.head _)
        rintro (_ | _ | _ | k) v hv
        · obtain rfl := Option.some.inj hv
          exact ⟨D, zs.map intV, 0, rfl, .tail _ (.tail _ (.head _)), by rw [List.length_map]; exact NU.len, fun q hq => Nat.ne_of_gt (Nat.lt_trans l0 (Nat.lt_trans l41 (hTL q hq))), NU.fit⟩
        · obtain rfl := Option.some.inj hv
          exact ⟨D3, ys, _, rfl, .tail _ (.tail _ (.tail _ (.head _))), hJ.length NU.len, fun q hq => Nat.ne_of_gt (Nat.lt_trans l41 (hTL q hq)), hJ.fit NU⟩
        · obtain rfl := Option.some.inj hv
          exact ⟨D4, ts, _, rfl, .tail _ (.head _), hJ'.length NU.len, fun q hq => Nat.ne_of_lt (l90 q (.tail _ (.tail _ hq))), hJ'.fit NU⟩
        · cases hv
      refine pyIter_led F11 N11 (.head _) ?_
      intro I h12 F12 N12 l12
      refine' for_list (hh := s₁.heap) (base := s₁.heap) (outer := []) (A₀ := callerA) (vs := [Value.ref D, Value.ref D3, Value.ref D4]) (J := fun k m W tk => W = ((lw, listOf #[Value.ref D, Value.ref D3, Value.ref D4] 0) :: (D4, listOf ts.toArray ts.length) :: (D, listOf (zs.map intV).toArray 0) :: (D3, listOf ys.toArray ys.length) :: TL)) rfl ?hl ?turn ?fin rfl ?hW ?hF
      case hF => exact ⟨.refl, F12, N12, B, X, T, XB, TB, KD⟩
      case hW => exact fun q hq => Nat.ne_of_lt (l12 q hq)
      case hl =>
        intro k m W t h₀ h V hJ2 FF
        subst hJ2
        exact FF.N.isList (.tail _ (.head _))
      case fin =>
        intro m W h₃ s₃ hJ2 FF hs
        obtain ⟨T0, F, _, _, _, _, _, _, _⟩ := FF
        have FZ : Fr s₁.heap s₁.heap.objs.size s₃.heap m := ⟨F.ns, fun b o e => F.keep b o (T0.other b o e (fun h => nomatch h)), Nat.le_refl _⟩
        refine st_elim (s := s₁) (s₃ := s₃) hs fun hh tt e₃ => ?_
        clear hs; subst e₃
        clear F12 N12 F11 N11 T0 F
        have NZ : News s₁.heap s₁.heap.objs.size hh [] := fun _ h => nomatch h
        dsimp only at FZ ⊢
        (repeat' (first | (k_unfold; (try dsimp only)) | (k_end; kc_close) | (with_reducible ((k_here; (try k_gentoks); (with_reducible refine wpAny_execs_cons ?_); (try dsimp only); (try k_fold)))) | walk1 | (dsimp only; walk1) | (leave1; (try dsimp only))))
      case turn =>
        intro k m W s₃ h₃ v hv hJ2 hWn FF hs
        obtain ⟨lt, vs, c, rfl, hm, h66, hTn, hfit⟩ := TH k v hv
        subst hJ2
        generalize hLW : ((lw, listOf #[Value.ref D, Value.ref D3, Value.ref D4] 0) :: (D4, listOf ts.toArray ts.length) :: (D, listOf (zs.map intV).toArray 0) :: (D3, listOf ys.toArray ys.length) :: TL) = LW at *
        have hTW : ∀ q ∈ TL, q ∈ LW := fun q hq => by rw [← hLW]; exact .tail _ (.tail _ (.tail _ (.tail _ hq)))
        obtain ⟨T0, F, N, B', X', T', _, _, D'⟩ := FF
        refine st_elim (s := s₁) (s₃ := s₃) hs fun hh tt e₃ => ?_
        clear hs; subst e₃
        clear F12 N12 F11 N11 TH
        dsimp only at F N ⊢
        obtain ⟨e, ρ, h3, hfit⟩ := hfit
        (repeat' (first | (k_unfold; (try dsimp only)) | (k_end; kc_close) | (with_reducible (((first | (with_reducible show wpAny _ _ (call (Value.ref 278) _ _) _ _ _) | (with_reducible show wpAny _ _ (call (Value.ref 285) _ _) _ _ _) | (with_reducible show wpAny _ _ (call (Value.ref 291) _ _) _ _ _) | (with_reducible show wpAny _ _ (call (Value.ref 298) _ _) _ _ _) | (with_reducible show wpAny _ _ (call (Value.ref 305) _ _) _ _ _) | (with_reducible show wpAny _ _ (call (Value.ref 312) _ _) _ _ _) | (with_reducible show wpAny _ _ (call (Value.ref 317) _ _) _ _ _)); refine hold ?_))) | (with_reducible ((k_here; (try k_gentoks); (with_reducible refine wpAny_execs_cons ?_); (try dsimp only); (try k_fold)))) | walk1 | (dsimp only; walk1) | (leave1; (try dsimp only))))
        rename Fr _ _ _ _ => F13
        rename News _ _ _ _ => N13
        have uq : ∀ q ∈ (I, litObj lw ((k + 1 : Nat) : Int)) :: LW, q.1 = lt → q = (lt, listOf vs.toArray c) := fun q hq e => by
          have a := (N13 q hq).1
          have b := (N13 _ (.tail _ hm)).1
          rw [e] at a
          exact Prod.ext e (Option.some.inj (a.symm.trans b))
        refine ⟨?_⟩
        refine use_doesW (V := [(lt, listOf vs.toArray c)]) (W := ((I, litObj lw ((k + 1 : Nat) : Int)) :: LW).filter fun q => q.1 != lt) (fun b₂ _ hb => unlike_t (hfit b₂ fun q hq => hb q (List.mem_filter.mpr ⟨.tail _ (hTW q hq), by simpa using hTn q hq⟩)).1 h66) B' F13 X' N13 T' XB TB D' rfl rfl rfl (fun q hq => by rw [List.mem_singleton.mp hq]; exact .tail _ hm) (fun q hq => (List.mem_filter.mp hq).1) (fun q hq r hr => by rw [List.mem_singleton.mp hr]; simpa using (List.mem_filter.mp hq).2) ?hd ?hu ?hP0 ?_
        case hd => k_room
        case hu => k_units
        case hP0 => rintro V' ⟨_, _, _, h, _⟩; cases h
        intro h₄ h' tk' v' V' hP T4 F14 N14 n14 B4 X4 TT4 D4'
        obtain ⟨lr, cr, n15, hv', rfl⟩ := hP
        cases hv'
        clear F13 N13 X' T' B' D'
        have hlen : (row e vs).length ≤ 66 := by
          have := row_len (e := e) vs []
          unfold row
          simp only [List.length_nil] at this
          lia
        (repeat' (first | (k_unfold; (try dsimp only)) | (k_end; kc_close) | (with_reducible (((first | (with_reducible show wpAny _ _ (call (Value.ref 278) _ _) _ _ _) | (with_reducible show wpAny _ _ (call (Value.ref 285) _ _) _ _ _) | (with_reducible show wpAny _ _ (call (Value.ref 291) _ _) _ _ _) | (with_reducible show wpAny _ _ (call (Value.ref 298) _ _) _ _ _) | (with_reducible show wpAny _ _ (call (Value.ref 305) _ _) _ _ _) | (with_reducible show wpAny _ _ (call (Value.ref 312) _ _) _ _ _) | (with_reducible show wpAny _ _ (call (Value.ref 317) _ _) _ _ _)); refine hold ?_))) | walk1 | (dsimp only; walk1) | (leave1; (try dsimp only))))
        refine ⟨?_⟩
        obtain ⟨NN, hNN⟩ := six (row e vs).length
        refine use_doesW (V := [(lr, listOf (row e vs).toArray cr)]) (W := (lt, listOf vs.toArray c) :: (((I, litObj lw ((k + 1 : Nat) : Int)) :: LW).filter fun q => q.1 != lt)) (fun b₂ _ hb => have ff := hfit b₂ fun q hq => hb q (.tail _ (List.mem_filter.mpr ⟨.tail _ (hTW q hq), by simpa using hTn q hq⟩)); found_t ff.2.1 ff.2.2 h3 hlen hNN) B4 F14 X4 N14 TT4 XB TB D4' rfl rfl rfl (fun q hq => by rw [List.mem_singleton.mp hq]; exact .head _) (fun q hq => .tail _ hq) (fun q hq r hr => by
          rw [List.mem_singleton.mp hr]
          rcases List.mem_cons.mp hq with rfl | hq
          · exact n15
          · exact n14 q hq _ (.head _)) ?hd ?hu ?hP0 ?_
        case hd => k_room
        case hu => k_units
        case hP0 => rintro V' ⟨h, _⟩; cases h
        intro h₅ h' tk' v' V' hP T5 F15 N15 n15 B5 X5 TT5 D5'
        obtain ⟨hv', rfl⟩ := hP
        cases hv'
        clear F14 N14 X4 TT4 B4 D4' n15 n14
        k_steps
        exact ⟨⟨rfl, h₅, _, LW, rfl, hWn, ⟨T0.trans (T4.trans T5), F15, fun q hq => N15 q (by
          by_cases e : q.1 = lt
          · rw [uq q hq e]; exact .tail _ (.head _)
          · exact .tail _ (.tail _ (List.mem_filter.mpr ⟨hq, by simpa using e⟩))), B5, X5, TT5, XB, TB, D5'⟩, rfl⟩⟩
end Mine
end

end
end

theorem PySem.Challenge.cw_kp0017_01_holds : PySem.Challenge.rw_kp0017_01.Holds := by
  exact Mine.law_holds
