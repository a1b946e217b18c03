import PyProof.Rows.All
import Wide.All
import OpenK.AllK
import Wide.FinOn
import Open.Tops
import KE.KNestM
import Lean
import PySem.Challenge.RW_ej5013_01
set_option Elab.async false
section
open PySem PySem.W PySem.Calls PyProof.Rows
set_option Elab.async false
set_option maxRecDepth 100000
namespace Mine
/-! ### contexts without the collector's finaliser -/
noncomputable def isFin : Code → Bool
  | .builtin id _ => id == "lifetime.gc.finalise"
  | _ => false
structure NoFin (Γ : Ctx) : Prop where
  top : isFin Γ.code = false
  low : ∀ x ∈ Γ.below, isFin x.1 = false
/-- the triple of a tree, in contexts without the finaliser -/
noncomputable def wpN {α : Type} (M : Model) (A : Around) (t : Sem α) (Q : α → Shared → Prop) (E : Value → Shared → Prop) (s : Shared) : Prop :=
  ∀ Γ p, Γ.In A → NoFin Γ → Sem.wp M Γ t (fun a _ s' => Q a s') (fun e _ s' => E e s') p s
noncomputable def codeN (M : Model) (A : Around) (c : Code) (R : Result → Shared → Prop) (s : Shared) : Prop :=
  ∀ Γ p, Γ.code = c → Γ.Below A → (∀ x ∈ Γ.below, isFin x.1 = false) → wpCode M Γ R p s
section
variable {M : Model} {A : Around} {E : Value → Shared → Prop} {s : Shared} {α β : Type}
theorem wpN.of {t : Sem α} {Q : α → Shared → Prop} (h : wpAny M A t Q E s) : wpN M A t Q E s := fun Γ p hΓ _ => h Γ p hΓ
theorem codeN.of {c : Code} {R : Result → Shared → Prop} (h : codeAny M A c R s) : codeN M A c R s := fun Γ p hc hΓ _ => h Γ p hc hΓ
theorem wpN.mono {t : Sem α} {Q Q' : α → Shared → Prop} {E' : Value → Shared → Prop} (h : wpN M A t Q E s) (hQ : ∀ a s, Q a s → Q' a s) (hE : ∀ e s, E e s → E' e s) : wpN M A t Q' E' s :=
  fun Γ p hΓ hn => Sem.wp_mono M Γ t (fun a _ s => hQ a s) (fun e _ s => hE e s) p s (h Γ p hΓ hn)
theorem wpN.pure {a : α} {Q : α → Shared → Prop} (h : Q a s) : wpN M A (Pure.pure a) Q E s := .of (wpAny_pure h)
theorem wpN.bind {m : Sem α} {f : α → Sem β} {Q : β → Shared → Prop} (h : wpN M A m (fun a s' => wpN M A (f a) Q E s') E s) : wpN M A (m >>= f) Q E s := fun Γ p hΓ hn => by
  rw [Sem.wp_bind']
  exact Sem.wp_mono M Γ m (fun a p' s' h' => h' Γ p' hΓ hn) (fun _ _ _ h' => h') p s (h Γ p hΓ hn)
end
/-- a claim's thread, from the triple at its one context -/
theorem ends_of {prog : Program} {w : World} {t : Sem Fin} {s : Shared} {R : Result → Shared → Prop} (hreg : s.asleep)
    (h : wpN (model prog w) callerA t (fun fin s' => ∃ f, fin = .done f ∧ R (.ok f) s' ∧ leftWithCleanup s'.gens = false) (fun e s' => R (.error e) s' ∧ leftWithCleanup s'.gens = false) s) :
    ∃ n r s' s'', schedN (denote table) prog w n (.single s ⟨t, .builtin "claim.caller" {}, default, []⟩) = .halted (outcomeOf r) s'' ∧
      PySem.runN (denote table) prog w n s ⟨t, .builtin "claim.caller" {}, default, []⟩ = .halted (outcomeOf r) s'' ∧ s''.forget = s'.forget ∧ R r s' := by
  have hn : NoFin ⟨.builtin "claim.caller" {}, none, none, [], none⟩ := ⟨by decide, fun x hx => nomatch hx⟩
  have := Sem.wp_mono (model prog w) _ t (fun fin p' s' (h' : ∃ f, fin = .done f ∧ R (.ok f) s' ∧ leftWithCleanup s'.gens = false) => show Sem.finPost (model prog w) ⟨.builtin "claim.caller" {}, none, none, [], none⟩ (fun r s' => R r s' ∧ leftWithCleanup s'.gens = false) fin p' s' by
    obtain ⟨f, rfl, hf⟩ := h'; exact hf) (fun _ _ _ h' => h') default s (h _ _ caller_in hn)
  exact wp_halts_full (M := model prog w) (R := R) hreg this

/-- what the walk must show, with the triple above -/
noncomputable abbrev WalkX (q : Program) (loose : List Str) (XP : (Str → Option Value) → Heap → Prop) (YP : World → Heap → Prop) (r : RowW) (d : DefRec) (kwd : List (Str × Expr)) : Prop :=
  ∀ (w : World) (s₀ s₁ : Shared) (mg mb : Str → Option Value), Ground q loose r.records XP w s₀ mg mb s₁.heap → YP w s₁.heap → ∀ (a : Addr) (o : Obj) (pm cd doc dV kV : Value), s₁.heap.get? a = some o →
    o.data = .func { docDef d.name d.params d.body d.scope pm cd doc with defaults := dV, kwdefaults := kV } → s₁.heap.CodeRec cd d.name → Dflts mg s₁.heap d.params kwd dV kV → mg d.name = some (.ref a) → s₁.gens = #[] →
    ∀ (args : List WData) (vals : List Value) (as : List Addr), r.claim.pre args = true → WData.layableAll args = true → ReadsAllW r.records (classAt s₀.heap) s₁.heap vals args as → WellAll w.params s₁.heap vals args → (∀ a ∈ as, (a == sysModules) = false) →
      wpN (model r.prog w) callerA (PySem.call (.ref a) vals) (fun v s' => GoodWG r.claim (classAt s₀.heap) (ExcName.means s₀.heap) args s₁ (.ok (.ret v)) s')
        (fun e s' => GoodWG r.claim (classAt s₀.heap) (ExcName.means s₀.heap) args s₁ (.error e) s') s₁

/-- the head of an open row, from the walk in contexts without the finaliser (its name is what the head's tactic looks for) -/
theorem PySem.W.holds_open {r : OpenRow} {q : Program} {loose : List Str} {Xt : Shared → Bool} {XP : (Str → Option Value) → Heap → Prop} {α : Type} {Yf : Shared → α} {Ya : World → α} {YP : World → Heap → Prop} {d : DefRec} {kwd : List (Str × Expr)} {N : Nat}
    (left : LeftO r.prog q loose Xt Yf Ya N) (hY : ∀ w s, Yf s = Ya w → YP w s.heap) (hYk : ∀ w h h', YP w h → (∀ b o, h.get? b = some o → h'.get? b = some o) → YP w h')
    (hX : ∀ s, Xt s = true → XP (s.heap.nsMap mainGlobals) s.heap) (hXk : ∀ mg h h', XP mg h → (∀ b o, h.get? b = some o → h'.get? b = some o) → XP mg h')
    (hdef : defOf q r.name = some (d, kwd)) (hp : r.prog.theDef r.name = some (d.params, d.body, d.scope)) (hk : kwWritten? d.params.kwonlyargs d.params.kw_defaults = some kwd) (hRf : ∀ s, Xt s = true → RecFacts r.records s.heap) (hwr : (!r.writes || r.records.isEmpty) = true)
    (k1 : r.wellSaid = true) (ok : (chainsOk q && opensWell r.prog && (frees r.toRowW && r.within.isEmpty)) = true) (hb : r.prog.bare) (hw : r.toRowW.promised)
    (call : WalkX q loose XP YP r.toRowW d kwd) : r.Holds := by
  obtain ⟨ok1, ok2⟩ := Bool.and_eq_true_iff.mp ok
  obtain ⟨hch, o1⟩ := Bool.and_eq_true_iff.mp ok1
  obtain ⟨fr, wi⟩ := Bool.and_eq_true_iff.mp ok2
  obtain ⟨hsame, hu, ha, hap, hm⟩ := frees_parts fr
  have hwi : r.claim.within = [] := List.isEmpty_iff.mp wi
  have hi := ident_freeW hu ha hap
  have top := fun w => left.behind (XP := fun mg h => XP mg h ∧ RecFacts r.records h) (fun s hs => ⟨hX s hs, hRf s hs⟩) hch w
  refine ⟨k1, hw, ⟨hb, o1, by show r.makers.map _ = []; rw [hm]; rfl⟩, hw.witness, fun w => ⟨(top w).1, fun sI hI => ?_⟩⟩
  obtain ⟨sF, hF, hF0, s, hT, hz, hge, hns, GX, y⟩ := (top w).2 sI hI
  have RF := GX.X.2
  have G0 : Ground q loose [] XP w s (s.heap.nsMap mainGlobals) (s.heap.nsMap builtinsNs) s.heap := { GX with X := GX.X.1 }
  have hgens : s.gens = #[] := Array.eq_empty_of_size_eq_zero (beq_iff_eq.mp hge)
  have G : Ground q loose r.records XP w s _ _ s.heap := RF.ground G0
  refine ⟨sF, hF, hF0, s, hT, fun n hn => ?_, RF.1, RF.2.1, fun args hpre hlay ord hord => ?_⟩
  · obtain rfl : n = r.name := by split at hn <;> simp_all
    exact pinned_of_view hns G0 hdef hp hk
  obtain ⟨⟨vs, s₁⟩, laid⟩ := Option.isSome_iff_exists.mp (layAllW_isSome (P := w.params) (ord := ord) G.has args r.args s (pre_splitW hpre).1)
  have keeps := layAllW_keeps _ _ _ laid
  obtain ⟨rg, rt, ro, rl⟩ := layAllW_rest _ _ _ laid
  obtain ⟨as, hrd, hin, hold⟩ := reads_layAllW hord _ _ _ laid hlay s₁.heap (fun _ _ e => e)
  have L : Laid r.records w s s₁ args vs as := ⟨⟨ord, hord, laid⟩, hrd, hin, hold, keeps, rg.trans hgens, ro⟩
  have G₁ := G.keeps hXk keeps
  obtain ⟨a, o, pm, cd, doc, dV, kV, f1, f2, f3, f4, f5⟩ := G₁.fn hdef
  have walk := call w s s₁ _ _ G₁ (hYk _ _ _ (hY w s y) keeps) a o pm cd doc dV kV f2 f3 f4 f5 (defOf_name hdef ▸ f1) L.gens args vs as hpre hlay L.reads L.well (L.low G.low)
  let kept : Heap → Prop := fun h' => r.writes = true → namesKept r.prog r.keeps s.heap h' ∧ ∀ x ∈ r.records, ∀ a, classAt s.heap x.1 = some a → recordClass h' a x.1 (x.2.map (·.1)) = true
  have fin : ∀ {res : Result} {s' : Shared}, GoodWG r.claim (classAt s.heap) (ExcName.means s.heap) args s₁ res s' → (r.claim.Ends s args vs s₁ res s' ∧ s'.os = s.os ∧ kept s'.heap) ∧ leftWithCleanup s'.gens = false := fun g => by
    have z := g.laid (c := r.claim) hsame hwi hi L
    exact ⟨⟨z.1, z.2.1, fun q => ⟨namesKept_of hT hns r.keeps keeps g.2.1.old, noTable hwr q⟩⟩, leftWithCleanup_false_of_bare z.2.2⟩
  obtain ⟨n, res, s', s'', hsched, hrun, hfo, ⟨hE, hos, hkp⟩⟩ := ends_of (prog := r.prog) (w := w) (s := s₁) (R := fun res s' => r.claim.Ends s args vs s₁ res s' ∧ s'.os = s.os ∧ kept s'.heap)
    (t := do match ← nsGet mainNs r.name with
      | some f => do ret (← PySem.call f vs)
      | none => unsupported "claim.caller:no-such-global") (Shared.asleep_of_life rl hz)
    (wpN.bind (.of (wpAny_nsGet G₁.T.g (by
      rw [f1]
      refine wpN.bind (wpN.mono walk (fun v s' g => wpN.pure ⟨_, rfl, ?_⟩) fun e s' g => ?_)
      · exact ⟨(fin g).1, (fin g).2⟩
      · exact ⟨(fin g).1, (fin g).2⟩))))
  obtain ⟨eh, _, _, eo, _⟩ := Shared.forget_eq hfo
  have hlife : s''.heap.life = s.heap.life := (runN_life _ _ _ hrun).trans rl
  refine ⟨vs, s₁, laid, n, _, s'', hsched, ?_, fun _ i x hx => by rw [hgens] at hx; simp at hx, by show kept s''.heap; rw [eh]; exact hkp, by rw [hlife], Shared.rest_eq (eo.trans hos)⟩
  rcases hE.congr eh with ⟨v, rfl, d1, d2, d3, d4, d5⟩ | ⟨e, ob, cls, rfl, d1, d2, d3, d4, d5⟩
  · exact .inl ⟨v, rfl, d1, d2, d3, fun b o y _ => d4 b o y, d5⟩
  · exact .inr ⟨e, ob, cls, rfl, d1, d2, d3, d4, fun b o y _ => d5 b o y⟩
end Mine
end
section
open PySem PySem.W PySem.Calls PyProof.Rows
set_option Elab.async false
namespace Mine
set_option maxRecDepth 100000
set_option maxHeartbeats 8000000
open_shared sh for PySem.Challenge.pw_ej5013_01 leaving 14
end Mine
end
section
open PySem PySem.W PySem.Calls PyProof.Rows
set_option Elab.async false
set_option maxRecDepth 100000
set_option maxHeartbeats 8000000
namespace Mine
noncomputable def pickS (ks : List Nat) (l : List Stmt) : List Stmt := ks.filterMap fun k => l[k]?
/-- the program's own text, with the one def that the claim calls -/
noncomputable def q1 : Program := { PySem.Challenge.pw_ej5013_01 with main := { PySem.Challenge.pw_ej5013_01.main with body := pickS [33] PySem.Challenge.pw_ej5013_01.main.body } }
noncomputable def loose1 : List Str := [Str.ofString "_wall", Str.ofString "NetworkXException", Str.ofString "NetworkXError", Str.ofString "NetworkXAlgorithmError", Str.ofString "NetworkXUnbounded", Str.ofString "OutEdgeDataView", Str.ofString "EdgeDataView", Str.ofString "OutEdgeView", Str.ofString "EdgeView", Str.ofString "_NOT_FOUND", Str.ofString "cached_property", Str.ofString "Graph", Str.ofString "DiGraph", Str.ofString "build_residual_network", Str.ofString "_capacity_function", Str.ofString "edmonds_karp_core", Str.ofString "edmonds_karp_impl", Str.ofString "_law_draw", Str.ofString "_law_take", Str.ofString "_law_least", Str.ofString "_law_network", Str.ofString "_law_read", Str.ofString "_law_added", Str.ofString "_law_road", Str.ofString "_law_refused"]
/-- a function of the text, as its def leaves it: the k-th statement, the module's name, the code object's place -/
noncomputable def fnO (k : Nat) (m : Str) (t : Nat) (c : Addr) (_ : Params) : Obj := match PySem.Challenge.pw_ej5013_01.main.body[k]? with
  | some (.FunctionDef n a b _ _ _ sc _ _ _) => { cls := .type "function", data := .func (docDef n a b sc (.str m t) (.ref c) .none) }
  | _ => { cls := .none, data := .plain }
noncomputable def oCode_1103 : Params → Obj := fun P => { cls := Value.type "code", data := Data.fields #[Value.str (Str.ofString "edmonds_karp_core") 1176, Value.str (Str.ofString "edmonds_karp_core") 1177, Value.str (Str.ofString "/claim/cut.py") 1178, Value.int 500 0, Value.int 4 0, Value.int 0 0, Value.int 0 0, Value.int 3 0, Value.ref 694, Value.bool Bool.true, Value.int 181 0, Value.ref 695, Value.none, Value.ref 696, Value.ref 697, Value.ref 698, Value.int 1197 0, Value.int 500 0, Value.str (Str.ofString "/claim/cut.py") 1198] }
noncomputable def oCode_1110 : Params → Obj := fun P => { cls := Value.type "code", data := Data.fields #[Value.str (Str.ofString "edmonds_karp_impl") 1200, Value.str (Str.ofString "edmonds_karp_impl") 1201, Value.str (Str.ofString "/claim/cut.py") 1202, Value.int 570 0, Value.int 6 0, Value.int 0 0, Value.int 0 0, Value.int 3 0, Value.ref 701, Value.bool Bool.true, Value.int 181 0, Value.ref 702, Value.none, Value.ref 703, Value.ref 704, Value.ref 705, Value.int 1212 0, Value.int 570 0, Value.str (Str.ofString "/claim/cut.py") 1213] }
noncomputable def oCode_1115 : Params → Obj := fun P => { cls := Value.type "code", data := Data.fields #[Value.str (Str.ofString "_law_draw") 1217, Value.str (Str.ofString "_law_draw") 1218, Value.str (Str.ofString "/claim/cut.py") 1219, Value.int 589 0, Value.int 1 0, Value.int 0 0, Value.int 0 0, Value.int 3 0, Value.ref 708, Value.bool Bool.true, Value.int 181 0, Value.ref 709, Value.none, Value.none, Value.none, Value.ref 710, Value.int 1220 0, Value.int 589 0, Value.str (Str.ofString "/claim/cut.py") 1221] }
noncomputable def oCode_1122 : Params → Obj := fun P => { cls := Value.type "code", data := Data.fields #[Value.str (Str.ofString "_law_take") 1223, Value.str (Str.ofString "_law_take") 1224, Value.str (Str.ofString "/claim/cut.py") 1225, Value.int 594 0, Value.int 2 0, Value.int 0 0, Value.int 0 0, Value.int 3 0, Value.ref 713, Value.bool Bool.true, Value.int 181 0, Value.ref 714, Value.none, Value.ref 715, Value.ref 716, Value.ref 717, Value.int 1229 0, Value.int 594 0, Value.str (Str.ofString "/claim/cut.py") 1230] }
noncomputable def oCode_1127 : Params → Obj := fun P => { cls := Value.type "code", data := Data.fields #[Value.str (Str.ofString "_law_least") 1232, Value.str (Str.ofString "_law_least") 1233, Value.str (Str.ofString "/claim/cut.py") 1234, Value.int 601 0, Value.int 4 0, Value.int 0 0, Value.int 0 0, Value.int 3 0, Value.ref 720, Value.bool Bool.true, Value.int 181 0, Value.ref 721, Value.none, Value.none, Value.none, Value.ref 722, Value.int 1235 0, Value.int 601 0, Value.str (Str.ofString "/claim/cut.py") 1236] }
noncomputable def oCode_1134 : Params → Obj := fun P => { cls := Value.type "code", data := Data.fields #[Value.str (Str.ofString "_law_network") 1238, Value.str (Str.ofString "_law_network") 1239, Value.str (Str.ofString "/claim/cut.py") 1240, Value.int 610 0, Value.int 4 0, Value.int 0 0, Value.int 0 0, Value.int 3 0, Value.ref 725, Value.bool Bool.true, Value.int 181 0, Value.ref 726, Value.none, Value.ref 727, Value.ref 728, Value.ref 729, Value.int 1248 0, Value.int 610 0, Value.str (Str.ofString "/claim/cut.py") 1249] }
noncomputable def oCode_1139 : Params → Obj := fun P => { cls := Value.type "code", data := Data.fields #[Value.str (Str.ofString "_law_read") 1251, Value.str (Str.ofString "_law_read") 1252, Value.str (Str.ofString "/claim/cut.py") 1253, Value.int 619 0, Value.int 3 0, Value.int 0 0, Value.int 0 0, Value.int 3 0, Value.ref 732, Value.bool Bool.true, Value.int 181 0, Value.ref 733, Value.none, Value.none, Value.none, Value.ref 734, Value.int 1254 0, Value.int 619 0, Value.str (Str.ofString "/claim/cut.py") 1255] }
noncomputable def oCode_1144 : Params → Obj := fun P => { cls := Value.type "code", data := Data.fields #[Value.str (Str.ofString "_law_added") 1257, Value.str (Str.ofString "_law_added") 1258, Value.str (Str.ofString "/claim/cut.py") 1259, Value.int 633 0, Value.int 6 0, Value.int 0 0, Value.int 0 0, Value.int 3 0, Value.ref 737, Value.bool Bool.true, Value.int 181 0, Value.ref 738, Value.none, Value.none, Value.none, Value.ref 739, Value.int 1260 0, Value.int 633 0, Value.str (Str.ofString "/claim/cut.py") 1261] }
noncomputable def oCode_1149 : Params → Obj := fun P => { cls := Value.type "code", data := Data.fields #[Value.str (Str.ofString "_law_road") 1263, Value.str (Str.ofString "_law_road") 1264, Value.str (Str.ofString "/claim/cut.py") 1265, Value.int 640 0, Value.int 1 0, Value.int 0 0, Value.int 0 0, Value.int 3 0, Value.ref 742, Value.bool Bool.true, Value.int 181 0, Value.ref 743, Value.none, Value.none, Value.none, Value.ref 744, Value.int 1266 0, Value.int 640 0, Value.str (Str.ofString "/claim/cut.py") 1267] }
noncomputable def oCode_1156 : Params → Obj := fun P => { cls := Value.type "code", data := Data.fields #[Value.str (Str.ofString "_law_refused") 1269, Value.str (Str.ofString "_law_refused") 1270, Value.str (Str.ofString "/claim/cut.py") 1271, Value.int 654 0, Value.int 4 0, Value.int 0 0, Value.int 0 0, Value.int 3 0, Value.ref 747, Value.bool Bool.true, Value.int 181 0, Value.ref 748, Value.none, Value.ref 749, Value.ref 750, Value.ref 751, Value.int 1276 0, Value.int 654 0, Value.str (Str.ofString "/claim/cut.py") 1277] }
/-- the names of the text, as they stand at its end -/
noncomputable def oMain : Params → Obj := fun P => { cls := Value.type "dict", data := Data.dict #[{ hash := PyData.keyHash P (Str.ofString "__name__"), key := Value.str (Str.ofString "__name__") 165, val := Value.str (Str.ofString "law_ej5013_01") 1215 }, { hash := PyData.keyHash P (Str.ofString "__doc__"), key := Value.str (Str.ofString "__doc__") 166, val := Value.none }, { hash := PyData.keyHash P (Str.ofString "__package__"), key := Value.str (Str.ofString "__package__") 167, val := Value.none }, { hash := PyData.keyHash P (Str.ofString "__loader__"), key := Value.str (Str.ofString "__loader__") 168, val := Value.builtin "__main__.__loader__#opaque" }, { hash := PyData.keyHash P (Str.ofString "__spec__"), key := Value.str (Str.ofString "__spec__") 169, val := Value.none }, { hash := PyData.keyHash P (Str.ofString "__annotations__"), key := Value.str (Str.ofString "__annotations__") 170, val := Value.ref 6 }, { hash := PyData.keyHash P (Str.ofString "__builtins__"), key := Value.str (Str.ofString "__builtins__") 171, val := Value.ref 4 }, { hash := PyData.keyHash P (Str.ofString "__file__"), key := Value.str (Str.ofString "__file__") 173, val := Value.str (Str.ofString "/claim/cut.py") 172 }, { hash := PyData.keyHash P (Str.ofString "__cached__"), key := Value.str (Str.ofString "__cached__") 174, val := Value.none }, { hash := PyData.keyHash P (Str.ofString "_wall"), key := Value.str (Str.ofString "_wall") 193, val := Value.ref 21 }, { hash := PyData.keyHash P (Str.ofString "NetworkXException"), key := Value.str (Str.ofString "NetworkXException") 215, val := Value.ref 31 }, { hash := PyData.keyHash P (Str.ofString "NetworkXError"), key := Value.str (Str.ofString "NetworkXError") 231, val := Value.ref 44 }, { hash := PyData.keyHash P (Str.ofString "NetworkXAlgorithmError"), key := Value.str (Str.ofString "NetworkXAlgorithmError") 247, val := Value.ref 56 }, { hash := PyData.keyHash P (Str.ofString "NetworkXUnbounded"), key := Value.str (Str.ofString "NetworkXUnbounded") 263, val := Value.ref 68 }, { hash := PyData.keyHash P (Str.ofString "OutEdgeDataView"), key := Value.str (Str.ofString "OutEdgeDataView") 343, val := Value.ref 110 }, { hash := PyData.keyHash P (Str.ofString "EdgeDataView"), key := Value.str (Str.ofString "EdgeDataView") 390, val := Value.ref 152 }, { hash := PyData.keyHash P (Str.ofString "OutEdgeView"), key := Value.str (Str.ofString "OutEdgeView") 476, val := Value.ref 211 }, { hash := PyData.keyHash P (Str.ofString "EdgeView"), key := Value.str (Str.ofString "EdgeView") 523, val := Value.ref 249 }, { hash := PyData.keyHash P (Str.ofString "_NOT_FOUND"), key := Value.str (Str.ofString "_NOT_FOUND") 526, val := Value.ref 252 }, { hash := PyData.keyHash P (Str.ofString "cached_property"), key := Value.str (Str.ofString "cached_property") 589, val := Value.ref 291 }, { hash := PyData.keyHash P (Str.ofString "Graph"), key := Value.str (Str.ofString "Graph") 930, val := Value.ref 537 }, { hash := PyData.keyHash P (Str.ofString "DiGraph"), key := Value.str (Str.ofString "DiGraph") 1155, val := Value.ref 676 }, { hash := PyData.keyHash P (Str.ofString "build_residual_network"), key := Value.str (Str.ofString "build_residual_network") 1163, val := Value.ref 686 }, { hash := PyData.keyHash P (Str.ofString "_capacity_function"), key := Value.str (Str.ofString "_capacity_function") 1173, val := Value.ref 693 }, { hash := PyData.keyHash P (Str.ofString "edmonds_karp_core"), key := Value.str (Str.ofString "edmonds_karp_core") 1199, val := Value.ref 700 }, { hash := PyData.keyHash P (Str.ofString "edmonds_karp_impl"), key := Value.str (Str.ofString "edmonds_karp_impl") 1214, val := Value.ref 707 }, { hash := PyData.keyHash P (Str.ofString "_law_draw"), key := Value.str (Str.ofString "_law_draw") 1222, val := Value.ref 712 }, { hash := PyData.keyHash P (Str.ofString "_law_take"), key := Value.str (Str.ofString "_law_take") 1231, val := Value.ref 719 }, { hash := PyData.keyHash P (Str.ofString "_law_least"), key := Value.str (Str.ofString "_law_least") 1237, val := Value.ref 724 }, { hash := PyData.keyHash P (Str.ofString "_law_network"), key := Value.str (Str.ofString "_law_network") 1250, val := Value.ref 731 }, { hash := PyData.keyHash P (Str.ofString "_law_read"), key := Value.str (Str.ofString "_law_read") 1256, val := Value.ref 736 }, { hash := PyData.keyHash P (Str.ofString "_law_added"), key := Value.str (Str.ofString "_law_added") 1262, val := Value.ref 741 }, { hash := PyData.keyHash P (Str.ofString "_law_road"), key := Value.str (Str.ofString "_law_road") 1268, val := Value.ref 746 }, { hash := PyData.keyHash P (Str.ofString "_law_refused"), key := Value.str (Str.ofString "_law_refused") 1278, val := Value.ref 753 }, { hash := PyData.keyHash P (Str.ofString "law"), key := Value.str (Str.ofString "law") 1284, val := Value.ref 758 }] 35 }
/-- the part of the heap that the walk reads -/
noncomputable def K1 (P : Params) : Frag := [
  (0, PySem.W.boot_o_0 P),
  (1, PySem.W.boot_o_1 P),
  (2, sh.o_5 P),
  (3, oMain P),
  (30, sh.o_23 P),
  (31, sh.o_47 P),
  (32, sh.o_25 P),
  (43, sh.o_40 P),
  (44, sh.o_41 P),
  (55, sh.o_56 P),
  (56, sh.o_63 P),
  (67, sh.o_72 P),
  (68, sh.o_73 P),
  (252, sh.o_271 P),
  (274, sh.o_296 P),
  (280, sh.o_302 P),
  (281, sh.o_303 P),
  (289, sh.o_311 P),
  (290, sh.o_312 P),
  (291, sh.o_313 P),
  (292, sh.o_314 P),
  (293, sh.o_315 P),
  (294, sh.o_316 P),
  (309, sh.o_334 P),
  (310, sh.o_335 P),
  (316, sh.o_341 P),
  (317, sh.o_342 P),
  (323, sh.o_348 P),
  (324, sh.o_349 P),
  (330, sh.o_355 P),
  (331, sh.o_356 P),
  (337, sh.o_362 P),
  (338, sh.o_363 P),
  (344, sh.o_369 P),
  (345, sh.o_370 P),
  (359, sh.o_384 P),
  (360, sh.o_385 P),
  (361, sh.o_386 P),
  (362, sh.o_387 P),
  (376, sh.o_401 P),
  (377, sh.o_402 P),
  (390, sh.o_415 P),
  (391, sh.o_416 P),
  (418, sh.o_443 P),
  (419, sh.o_444 P),
  (420, sh.o_445 P),
  (421, sh.o_446 P),
  (536, sh.o_561 P),
  (537, sh.o_809 P),
  (538, sh.o_563 P),
  (539, sh.o_564 P),
  (552, sh.o_817 P),
  (558, sh.o_823 P),
  (559, sh.o_824 P),
  (565, sh.o_830 P),
  (566, sh.o_831 P),
  (567, sh.o_832 P),
  (568, sh.o_833 P),
  (575, sh.o_840 P),
  (576, sh.o_841 P),
  (577, sh.o_842 P),
  (578, sh.o_843 P),
  (585, sh.o_850 P),
  (586, sh.o_851 P),
  (592, sh.o_857 P),
  (593, sh.o_858 P),
  (606, sh.o_871 P),
  (607, sh.o_872 P),
  (675, sh.o_940 P),
  (676, sh.o_941 P),
  (699, oCode_1103 P),
  (700, fnO 22 (Str.ofString "networkx.algorithms.flow.edmondskarp") 1174 699 P),
  (706, oCode_1110 P),
  (707, fnO 23 (Str.ofString "networkx.algorithms.flow.edmondskarp") 1174 706 P),
  (711, oCode_1115 P),
  (712, fnO 25 (Str.ofString "law_ej5013_01") 1215 711 P),
  (718, oCode_1122 P),
  (719, fnO 26 (Str.ofString "law_ej5013_01") 1215 718 P),
  (723, oCode_1127 P),
  (724, fnO 27 (Str.ofString "law_ej5013_01") 1215 723 P),
  (730, oCode_1134 P),
  (731, fnO 28 (Str.ofString "law_ej5013_01") 1215 730 P),
  (735, oCode_1139 P),
  (736, fnO 29 (Str.ofString "law_ej5013_01") 1215 735 P),
  (740, oCode_1144 P),
  (741, fnO 30 (Str.ofString "law_ej5013_01") 1215 740 P),
  (745, oCode_1149 P),
  (746, fnO 31 (Str.ofString "law_ej5013_01") 1215 745 P),
  (752, oCode_1156 P),
  (753, fnO 32 (Str.ofString "law_ej5013_01") 1215 752 P)]
noncomputable def as1 : List Addr := [0, 1, 2, 3, 30, 31, 32, 43, 44, 55, 56, 67, 68, 252, 274, 280, 281, 289, 290, 291, 292, 293, 294, 309, 310, 316, 317, 323, 324, 330, 331, 337, 338, 344, 345, 359, 360, 361, 362, 376, 377, 390, 391, 418, 419, 420, 421, 536, 537, 538, 539, 552, 558, 559, 565, 566, 567, 568, 575, 576, 577, 578, 585, 586, 592, 593, 606, 607, 675, 676, 699, 700, 706, 707, 711, 712, 718, 719, 723, 724, 730, 731, 735, 736, 740, 741, 745, 746, 752, 753]
theorem as1_K : ∀ P, as1 = (K1 P).map (·.1) := fun _ => rfl
noncomputable abbrev hk1 : Hook := kmHook K1 as1 as1_K [688, 695, 164, 82]
namespace Hd
theorem PySem.W.holds_open {q : Program} {loose : List Str} {Xt : Shared → Bool} {XP : (Str → Option Value) → Heap → Prop} {α : Type} {Yf : Shared → α} {Ya : World → α} {YP : World → Heap → Prop} {d : DefRec} {kwd : List (Str × Expr)} {N : Nat}
    (left : LeftO PySem.Challenge.rw_ej5013_01.row.prog q1 loose1 (fun s => xlAt q1 [] s && recOk (RowW.records PySem.Challenge.rw_ej5013_01.row.toRowW) s) hk1.obs hk1.val N) (_hY : ∀ w s, Yf s = Ya w → YP w s.heap) (_hYk : ∀ w h h', YP w h → (∀ b o, h.get? b = some o → h'.get? b = some o) → YP w h')
    (_hX : ∀ s, Xt s = true → XP (s.heap.nsMap mainGlobals) s.heap) (_hXk : ∀ mg h h', XP mg h → (∀ b o, h.get? b = some o → h'.get? b = some o) → XP mg h')
    (hdef : defOf q1 PySem.Challenge.rw_ej5013_01.row.name = some (d, kwd)) (hp : PySem.Challenge.rw_ej5013_01.row.prog.theDef PySem.Challenge.rw_ej5013_01.row.name = some (d.params, d.body, d.scope)) (hk : kwWritten? d.params.kwonlyargs d.params.kw_defaults = some kwd)
    (_hRf : ∀ s, Xt s = true → RecFacts PySem.Challenge.rw_ej5013_01.row.records s.heap) (hwr : (!PySem.Challenge.rw_ej5013_01.row.writes || PySem.Challenge.rw_ej5013_01.row.records.isEmpty) = true)
    (k1 : PySem.Challenge.rw_ej5013_01.row.wellSaid = true) (ok : (chainsOk q1 && opensWell PySem.Challenge.rw_ej5013_01.row.prog && (frees PySem.Challenge.rw_ej5013_01.row.toRowW && PySem.Challenge.rw_ej5013_01.row.within.isEmpty)) = true)
    (hb : PySem.Challenge.rw_ej5013_01.row.prog.bare) (hw : PySem.Challenge.rw_ej5013_01.row.toRowW.promised)
    (call : WalkX q1 loose1 (XL q1 []) hk1.says PySem.Challenge.rw_ej5013_01.row.toRowW d kwd) : PySem.Challenge.rw_ej5013_01.row.Holds :=
  Mine.PySem.W.holds_open (r := PySem.Challenge.rw_ej5013_01.row) (q := q1) (loose := loose1) (Xt := fun s => xlAt q1 [] s && recOk (RowW.records PySem.Challenge.rw_ej5013_01.row.toRowW) s) (XP := XL q1 []) left (Hook.of hk1) (Hook.keeps hk1)
    (fun s e => xl_of s (Bool.and_eq_true_iff.mp e).1) XL.keeps hdef hp hk (fun s e => recFacts_of (Bool.and_eq_true_iff.mp e).2) hwr k1 ok hb hw call
noncomputable abbrev WalkP : Prop := ∀ d kwd, defOf q1 PySem.Challenge.rw_ej5013_01.row.name = some (d, kwd) → WalkX q1 loose1 (XL q1 []) hk1.says PySem.Challenge.rw_ej5013_01.row.toRowW d kwd
end Hd
end Mine
end
section
open PySem PySem.W PySem.Calls PyProof.Rows
set_option maxRecDepth 100000
set_option Elab.async false
set_option linter.unusedVariables false
namespace Mine
section
variable {M : Model} {A : Around} {E : Value → Shared → Prop} {s : Shared} {α β : Type}
theorem wpN.hold {vs : List Value} {m : Sem α} {Q : α → Shared → Prop} (h : wpN M A m Q E s) : wpN M A (holding vs m) Q E s := fun Γ p hΓ hn => by rw [Sem.wp_holding]; exact h Γ p hΓ hn
theorem wpN.oper {vs : List Value} {m : Sem Value} {Q : Value → Shared → Prop} (h : wpN M A m Q E s) : wpN M A (operate vs m) Q E s := fun Γ p hΓ hn => by rw [Sem.wp_operate]; exact h Γ p hΓ hn
theorem wpN.keep {vs : List Value} {m : Sem α} {Q : α → Shared → Prop} (h : wpN M A m Q E s) : wpN M A (m.keep vs) Q E s := fun Γ p hΓ hn => by rw [Sem.wp_keep]; exact h Γ p hΓ hn
theorem wpN.raise {m : Sem α} {k : Value → Sem Unit} {Q : α → Shared → Prop} (h : wpN M A m Q (fun e s' => wpN M A (k e) (fun _ s'' => E e s'') E s') s) : wpN M A (m.onRaise k) Q E s := fun Γ p hΓ hn => by
  rw [Sem.wp_onRaise]
  exact Sem.wp_mono M Γ m (fun _ _ _ h' => h') (fun e p' s' h' => h' Γ p' hΓ hn) p s (h Γ p hΓ hn)
theorem wpN.catch {m : Sem α} {k : Value → Sem α} {Q : α → Shared → Prop} (h : wpN M A m Q (fun e s' => wpN M A (k e) Q E s') s) : wpN M A (tryCatch m k) Q E s := fun Γ p hΓ hn => by
  rw [Sem.wp_tryCatch']
  exact Sem.wp_mono M Γ m (fun _ _ _ h' => h') (fun e p' s' h' => h' Γ p' hΓ hn) p s (h Γ p hΓ hn)
theorem wpN.attempt {m : Sem α} {Q : Except Value α → Shared → Prop} (h : wpN M A m (fun a => Q (.ok a)) (fun e => Q (.error e)) s) : wpN M A m.attempt Q E s := fun Γ p hΓ hn => by rw [Sem.wp_attempt]; exact h Γ p hΓ hn
/-- a quiet first part -/
theorem wpN.first {m : Sem α} {f : α → Sem β} {Q : β → Shared → Prop} (h : wpAny M A m (fun a s' => wpN M A (f a) Q E s') E s) : wpN M A (m >>= f) Q E s := .bind (.of h)
theorem wpN.stand {f : PUnit → Sem β} {pos : Pos} {Q : β → Shared → Prop} (h : wpN M A (f ()) Q E s) : wpN M A (standAt pos >>= f) Q E s := .first (wpAny_standAt h)
theorem wpN.eq {t t' : Sem α} {Q : α → Shared → Prop} (e : t = t') (h : wpN M A t' Q E s) : wpN M A t Q E s := e ▸ h
theorem wpN.in1 {t : Sem α} {Q : α → Shared → Prop} (h : wpN M A.in1 t Q E s) : wpN M A t Q E s :=
  fun Γ p hΓ hn => h Γ p ⟨hΓ.1, hΓ.2.1, hΓ.2.2.1, hΓ.2.2.2.1, Nat.le_succ_of_le hΓ.2.2.2.2⟩ hn

/-! ### code -/
theorem NoFin.enter {Γ : Ctx} (h : NoFin Γ) (c : Code) (hd : Option Value) (p : Pos) : ∀ x ∈ (Γ.enter c hd p).below, isFin x.1 = false := fun x hx => by
  rcases List.mem_cons.mp hx with rfl | hx
  · exact h.top
  · exact h.low x hx
theorem codeN.mono {c : Code} {R R' : Result → Shared → Prop} (h : codeN M A c R s) (k : ∀ r s', R r s' → R' r s') : codeN M A c R' s := fun Γ p hc hΓ hn => wpCode_mono k (h Γ p hc hΓ hn)
theorem codeN.tree {c : Code} {R : Result → Shared → Prop} (hf : isFin c = false)
    (h : wpN M (A.under c) (M.den c) (fun fin s' => match fin with | .done f => R (.ok f) s' | .again c' => c'.quiet = true ∧ codeN M A c' R s') (fun e s' => R (.error e) s') s) : codeN M A c R s := fun Γ p hc hΓ hn => by
  rw [wpCode_iff_wp, hc]
  refine Sem.wp_mono M Γ _ (fun fin p' s' h' => ?_) (fun _ _ _ h' => h') p s (h Γ p (hc ▸ hΓ.in) ⟨hc ▸ hf, hn⟩)
  cases fin with
  | done f => exact h'
  | again c' => exact ⟨h'.1, h'.2 (Γ.goto c') p' rfl (hΓ.goto c') hn⟩
theorem wpN.run {c : Code} {h : Option Value} {Q : Flow → Shared → Prop} (hc : codeN M (A.mark h) c (fun r s' => match r with | .ok f => Q f s' | .error e => E e s') s) (hnb : h ≠ some byPass := by intro x; cases x) : wpN M A (PySem.run c h) Q E s :=
  fun Γ p hΓ hn => by rw [Sem.wp_run]; exact hc _ p rfl (hΓ.enter c h p hnb) (hn.enter c h p)
theorem wpN.runValue {c : Code} {Q : Value → Shared → Prop} (hc : codeN M A c (fun r s' => match r with | .ok (.ret v) => Q v s' | .ok _ => False | .error e => E e s') s) : wpN M A (PySem.runValue c) Q E s :=
  fun Γ p hΓ hn => by rw [Sem.wp_runValue]; exact hc _ p rfl (hΓ.enter c none p (by intro x; cases x)) (hn.enter c none p)
theorem wpN.call {f : Value} {pos : List Value} {kw : List (Str × Value)} {Q : Value → Shared → Prop} (hc : codeN M A (.call f ⟨pos, kw⟩) (fun r s' => match r with | .ok (.ret v) => Q v s' | .ok _ => False | .error e => E e s') s) : wpN M A (PySem.call f pos kw) Q E s := .runValue hc
theorem codeN.loop {c : Code} {R : Result → Shared → Prop} (hq : c.quiet = true) (hf : isFin c = false) (I : Nat → Shared → Prop)
    (turn : ∀ n s, I n s → wpN M (A.under c) (M.den c) (fun fin s' => match fin with
      | .done f => R (.ok f) s'
      | .again c' => (c' = c ∧ ∃ m, m < n ∧ I m s') ∨ (c'.quiet = true ∧ codeN M A c' R s')) (fun e s' => R (.error e) s') s) (n : Nat) (h : I n s) : codeN M A c R s := by
  induction n using Nat.strongRecOn generalizing s with
  | ind n ih =>
    refine codeN.tree hf (wpN.mono (turn n s h) (fun fin s' hf => ?_) fun _ _ h' => h')
    cases fin with
    | done f => exact hf
    | again c' =>
      rcases hf with ⟨rfl, m, hm, hI⟩ | hf
      · exact ⟨hq, ih m hm hI⟩
      · exact hf
end
section
variable {prog : Program} {w : World} {A : Around} {E : Value → Shared → Prop} {R : Result → Shared → Prop} {s : Shared} {env : Env}
theorem codeN.func {body : List Stmt} (h : wpN (model prog w) (A.deeper env) (execs body env) (fun f s' => R (.ok (.ret (match f with | .ret v => v | _ => .none))) s')
      (fun e s' => wpAny (model prog w) (A.deeper env) («leaving» env e) (fun _ s'' => R (.error e) s'') (fun e' s'' => R (.error e') s'') s') s) : codeN (model prog w) A (.func body env) R s := by
  refine codeN.tree rfl ?_
  show wpN _ (A.deeper env) (do point; match ← (execs body env).onRaise («leaving» env) with | .ret v => ret v | _ => ret .none) _ _ s
  refine wpN.first (wpAny_point (wpN.bind (wpN.raise (wpN.mono h (fun f s' h' => ?_) fun _ _ h' => .of h'))))
  cases f <;> exact wpN.pure h'
theorem codeN.function {a : Addr} {args : Args} {o : Obj} {fd : FuncData} {body : List Stmt} (hroom : A.depth < recursionLimit) (ho : s.heap.get? a = some o) (hd : o.data = .func fd) (hco : fd.scope.isCoroutine = false) (hgen : fd.scope.isGenerator = false)
    (hbody : fd.body = .stmts body) (hcd : s.heap.CodeRec fd.code fd.qualname)
    (h : wpAny (model prog w) A.in1 (bindArgs fd args) (fun binds s₁ => wpAny (model prog w) A.in1 (newFunctionEnv fd.scope fd.globals fd.closure binds (fd.qualname ++ ".<locals>.") (some a) fd.code none fd.builtins)
        (fun env s₂ => s₂.heap.NoLimit ∧ codeN (model prog w) A (.func body env) R s₂) (fun e s' => R (.error e) s') s₁) (fun e s' => R (.error e) s') s) : codeN (model prog w) A (.call (.ref a) args) R s := by
  refine codeN.tree rfl ?_
  show wpN _ A.in1 (callAny (.ref a) args) _ _ s
  simp only [callAny]
  refine wpN.first (wpAny_load ho ?_)
  obtain ⟨c, oc, vs, tq, hc, hoc, hdc, hq⟩ := hcd
  simp only [hd, callFunction, hco, hgen, hbody, hc]
  rw [hc] at h
  refine wpN.first (m := field (.ref c) 1) (wpAny_field hoc hdc hq (wpN.first (wpAny_pure ?_)))
  exact wpN.first (wpAny_mono h (fun binds s₁ h₁ => wpN.first (wpAny_mono h₁ (fun env s₂ h₂ => wpN.first (wpAny_enterFrame h₂.1 hroom (wpN.pure ⟨rfl, h₂.2⟩))) fun _ _ h' => h')) fun _ _ h' => h')
/-! ### trees -/
theorem seqN {st : Stmt} {rest : List Stmt} {Q : Flow → Shared → Prop} (h : wpN (model prog w) A (exec st env) (fun f s' => match f with | .next => wpN (model prog w) A (execs rest env) Q E s' | f => Q f s') E s) : wpN (model prog w) A (execs (st :: rest) env) Q E s := by
  refine wpN.eq (execs_cons (env := env) st rest) (wpN.bind (wpN.mono h (fun f s' h' => ?_) fun _ _ e => e))
  cases f <;> first | exact h' | exact wpN.pure h'
theorem assignN {x : Str} {xp pos : Pos} {e : Expr} {Q : Flow → Shared → Prop} (hs : swapsWith e (some (.Name x xp)) pos.line env = pure false)
    (h : wpN (model prog w) A (eval e env) (fun v s₁ => wpAny (model prog w) A (storeName env x v) (fun _ => Q .next) E s₁) E s) : wpN (model prog w) A (exec (.Assign [.Name x xp] e pos) env) Q E s := by
  refine wpN.eq (exec_Assign_Name (env := env) _ _ _ _ hs) (wpN.stand (wpN.bind (wpN.mono h (fun v s₁ h₁ => wpN.stand (wpN.first ?_)) fun _ _ e => e)))
  exact wpAny_bindName (wpAny_mono h₁ (fun _ _ q => wpN.pure q) fun _ _ e => e)
theorem returnN {e : Expr} {pos : Pos} {Q : Flow → Shared → Prop} (h : wpN (model prog w) A (eval e env) (fun v => Q (.ret v)) E s) : wpN (model prog w) A (exec (.Return (some e) pos) env) Q E s :=
  wpN.eq (exec_Return_some (env := env) e pos) (wpN.stand (wpN.bind (wpN.mono h (fun _ _ q => wpN.pure q) fun _ _ e => e)))
theorem ifN {t : Expr} {b₁ b₂ : List Stmt} {pos : Pos} {Q : Flow → Shared → Prop} (h : wpN (model prog w) A (isTrue t env (eval t env)) (fun b s₁ => if b then wpN (model prog w) A (execs b₁ env) Q E s₁ else wpN (model prog w) A (execs b₂ env) Q E s₁) E s) :
    wpN (model prog w) A (exec (.If t b₁ b₂ pos) env) Q E s := by
  refine wpN.eq (arm_exec_If t b₁ b₂ pos env) (wpN.stand (wpN.bind (wpN.mono h (fun b s₁ h₁ => ?_) fun _ _ e => e)))
  cases b <;> exact h₁
/-- a test by comparing: the left side may be far -/
theorem testN {l r : Expr} {op : CmpOp} {pos : Pos} {whole : Sem Value} {Q : Bool → Shared → Prop} (hm : behindInMarks op r = false)
    (h : wpN (model prog w) A (eval l env) (fun a s₁ => wpAny (model prog w) A (eval r env) (fun b s₂ => wpAny (model prog w) A (compareOp op a b) (fun c s₃ => wpAny (model prog w) A (truthy c) Q E s₃) E s₂) E s₁) E s) : wpN (model prog w) A (isTrue (.Compare l [op] [r] pos) env whole) Q E s := by
  refine wpN.eq (isTrue_Compare1 (env := env) l op r pos whole) (wpN.bind (wpN.mono h (fun a s₁ h₁ => ?_) fun _ _ e => e))
  rw [markedBehindIn_of_false hm]
  refine wpN.of (wpAny_bind (wpAny_holding (wpAny_mono h₁ (fun b s₂ h₂ => wpAny_bind (wpAny_standAt (wpAny_bind ?_))) fun _ _ e => e)))
  exact wpAny_operateT (wpAny_mono h₂ (fun c s₃ h₃ => wpAny_holding h₃) fun _ _ e => e)
theorem compareN {l r : Expr} {op : CmpOp} {pos : Pos} {Q : Value → Shared → Prop} (hm : behindInMarks op r = false)
    (h : wpN (model prog w) A (eval l env) (fun a s₁ => wpAny (model prog w) A (eval r env) (fun b s₂ => wpAny (model prog w) A (compareOp op a b) Q E s₂) E s₁) E s) : wpN (model prog w) A (eval (.Compare l [op] [r] pos) env) Q E s := by
  refine wpN.eq (eval_Compare1 (env := env) l op r pos) (wpN.bind (wpN.mono h (fun a s₁ h₁ => ?_) fun _ _ e => e))
  rw [markedBehindIn_of_false hm]
  exact wpN.of (wpAny_bind (wpAny_holding (wpAny_mono h₁ (fun b s₂ h₂ => wpAny_bind (wpAny_standAt (wpAny_operateT h₂))) fun _ _ e => e)))
theorem andN {x y : Expr} {pos : Pos} {Q : Value → Shared → Prop} (h : wpAny (model prog w) A (eval x env) (fun v s₁ => wpAny (model prog w) A (truthy v) (fun t s₂ => if t then wpN (model prog w) A (eval y env) Q E s₂ else Q v s₂) E s₁) E s) :
    wpN (model prog w) A (eval (.BoolOp .And [x, y] pos) env) Q E s := by
  show wpN _ _ (boolOp pos .And [eval x env, eval y env]) _ _ _
  unfold boolOp
  refine wpN.first (wpAny_mono h (fun v s₁ h₁ => wpN.stand (wpN.bind (wpN.hold (wpN.of (wpAny_mono h₁ (fun t s₂ h₂ => ?_) fun _ _ e => e))))) fun _ _ e => e)
  cases t with
  | true => exact h₂
  | false => exact wpN.pure h₂
theorem callWithN {f : Value} {pos : Pos} {first : List Value} {args : List (Bool × Sem Value)} {keywords : List (Option Str × Sem Value)} {Q : Value → Shared → Prop} {P : Heap → Prop} (hplain : (args.any (·.1) || keywords.any (·.1.isNone)) = false)
    (hk : ∀ h, P h → ∃ k, (k = Keeper.frame ∨ k = Keeper.machine ∨ k = Keeper.boundFrame) ∧ Looks (model prog w) h (keeperOf f) k)
    (h : wpAny (model prog w) A (evalArgs f true args keywords) (fun a s₁ => P s₁.heap ∧ wpN (model prog w) A (PySem.call f (first ++ a.pos) a.kw) Q E s₁) E s) : wpN (model prog w) A (callWith pos f first args keywords) Q E s := by
  unfold callWith
  refine wpN.bind (wpN.hold (wpN.of (wpAny_mono h (fun a s₁ h₁ => wpN.stand ?_) fun _ _ e => e)))
  obtain ⟨k, kc, L⟩ := hk _ h₁.1
  simp only [hplain]
  refine wpN.first (L.here ?_)
  have fin : ∀ {t : Sem Value}, wpN (model prog w) A t Q E s₁ → wpN (model prog w) A (t >>= fun r => holding [r] point >>= fun _ => pure r) Q E s₁ := fun ht =>
    wpN.bind (wpN.mono ht (fun r s₂ hr => wpN.first (wpAny_holding (wpAny_point (wpN.pure hr)))) fun _ _ e => e)
  have mk : ∀ m, wpN (model prog w) A (callMarked m f (first ++ a.pos) a.kw) Q E s₁ := fun m => by unfold callMarked; exact wpN.keep h₁.2
  rcases kc with rfl | rfl | rfl <;> dsimp only <;> first | exact fin h₁.2 | (split <;> first | exact fin h₁.2 | exact fin (mk _))
theorem callNameN {x : Str} {xp pos : Pos} {args : List Expr} {kws : List Keyword} {Q : Value → Shared → Prop}
    (h : wpAny (model prog w) A (eval (.Name x xp) env) (fun f s₁ => wpN (model prog w) A (callWith pos f [] (backTo pos (starEach args env)) (backToKw pos (keywordEach kws env))) Q E s₁) E s) : wpN (model prog w) A (eval (.Call (.Name x xp) args kws pos) env) Q E s := by
  show wpN _ A (do callWith pos (← eval (.Name x xp) env) [] (backTo pos (starEach args env)) (backToKw pos (keywordEach kws env))) Q E s
  exact wpN.first h
theorem attrN {o : Expr} {name : Str} {pos : Pos} {Q : Value → Shared → Prop} (hb : attributeBase o name env (eval o env) = eval o env)
    (h : wpAny (model prog w) A (eval o env) (fun v s₁ => wpN (model prog w) A (getAttr v name true) Q E s₁) E s) : wpN (model prog w) A (eval (.Attribute o name pos) env) Q E s := by
  rw [arm_eval_Attribute, hb]
  refine wpN.first (wpAny_mono h (fun v s₁ h₁ => wpN.stand (wpN.bind (wpN.hold (wpN.mono h₁ (fun r s₂ h₂ => wpN.first (wpAny_letTemporaryGo (wpN.pure h₂))) fun _ _ e => e)))) fun _ _ e => e)
end
end Mine
end
section
open PySem PySem.W PySem.Calls PyProof.Rows
set_option maxRecDepth 100000
set_option Elab.async false
set_option linter.unusedVariables false
namespace Mine
section
variable {prog : Program} {w : World} {A : Around} {E : Value → Shared → Prop} {R : Result → Shared → Prop} {s : Shared} {env : Env} {K : Frag} {x C dx : Addr}
theorem notFin {id : String} {args : Args} (h : (id == "lifetime.gc.finalise") = false) : isFin (.builtin id args) = false := h
theorem yesFin {args : Args} : isFin (.builtin "lifetime.gc.finalise" args) = true := rfl
theorem codeN.builtin {id : String} {args : Args} {b : Builtin} (hf : (id == "lifetime.gc.finalise") = false) (hb : entryFor table id = some b)
    (h : wpN (model prog w) (A.under (.builtin id args)) (b args) (fun fin s' => match fin with | .done f => R (.ok f) s' | .again c' => c'.quiet = true ∧ codeN (model prog w) A c' R s') (fun e s' => R (.error e) s') s) : codeN (model prog w) A (.builtin id args) R s := by
  refine codeN.tree (notFin hf) ?_
  show wpN _ _ (match entryFor table id with | some b => b args | none => unsupported ((withoutEnding? id "#data").getD id)) _ _ s
  rw [hb]; exact h
theorem codeN.callBuiltin {id : String} {args : Args} {b : Builtin} (hf : (id == "lifetime.gc.finalise") = false) (hq : plainId id = true) (hb : entryFor table id = some b)
    (h : wpAny (model prog w) A.in1 (checkBuiltinCall id args) (fun _ s₁ => wpN (model prog w) A.in1 (b args) (fun fin s' => match fin with | .done f => R (.ok f) s' | .again c' => c'.quiet = true ∧ codeN (model prog w) A c' R s') (fun e s' => R (.error e) s') s₁)
      (fun e s' => R (.error e) s') s) : codeN (model prog w) A (.call (.builtin id) args) R s := by
  refine codeN.tree rfl ?_
  show wpN _ A.in1 (do checkBuiltinCall id args; again (.builtin id args)) _ _ s
  refine wpN.first (wpAny_mono h (fun _ s₁ h₁ => wpN.pure ⟨plainId_quiet hq args, codeN.builtin hf hb ?_⟩) fun _ _ e => e)
  rw [Around.under_plainId hq args]; exact h₁
theorem tryN {body orelse : List Stmt} {h₀ : ExceptHandler} {hs : List ExceptHandler} {pos : Pos} {Q : Flow → Shared → Prop}
    (h : wpN (model prog w) A (execs body env) (fun f s₁ => match f with | .next => wpAny (model prog w) A (execs orelse env) Q E s₁ | f => Q f s₁)
      (fun e s₁ => wpAny (model prog w) A (noteFrame e env) (fun _ s₂ => wpAny (model prog w) A (setFlight e none) (fun _ s₃ => wpAny (model prog w) A (handleBy e env (h₀ :: hs)) Q E s₃) E s₂) E s₁) s) :
    wpN (model prog w) A (exec (.Try body (h₀ :: hs) orelse [] pos) env) Q E s := by
  refine wpN.eq (arm_exec_Try body (h₀ :: hs) orelse [] pos env) (wpN.stand ?_)
  unfold tryStmt
  simp only [List.isEmpty_nil, if_true, List.isEmpty_cons, Bool.false_and, Bool.false_eq_true, if_false]
  refine wpN.bind (wpN.attempt (wpN.mono h (fun f s₁ h₁ => ?_) fun e s₁ h₁ => ?_))
  · cases f <;> first | exact wpN.of h₁ | exact wpN.pure h₁
  · exact wpN.of (wpAny_bind (wpAny_mono h₁ (fun _ _ h₂ => wpAny_bind h₂) fun _ _ e => e))
theorem getAttrN {ox : Obj} {od : Option Obj} {name : Str} {expr : Bool} {g a : Value} {Q : Value → Shared → Prop} (X : K.In s.heap) (I : PySem.W.InstAt s.heap x ox C od) (hga : findIn K (.ref C) "__getattribute__" = some (some (.builtin "object.__getattribute__")))
    (hf : findObj K C od name = some (.bind g a)) (hk : findIn K (.ref C) "__getattr__" = some none)
    (h : wpN (model prog w) A.in1 (PySem.call g [a, .ref x, .ref C]) (fun v s' => wpAny (model prog w) A (handedOut v) Q E s') (fun e s' => wpAny (model prog w) A (noteIf true (.ref x) (.str name s.toks) e) (fun _ s'' => E e s'') E s') { s with toks := s.toks + 1 }) :
    wpN (model prog w) A (getAttr (.ref x) name expr) Q E s := by
  obtain ⟨hh, g', d, t, os⟩ := s
  have L0 := I.type (M := model prog w)
  have L1 := looks_findIn (M := model prog w) X hga
  have L2 := looks_find (M := model prog w) X I hf
  have L3 := looks_findIn (M := model prog w) X hk
  unfold getAttr getAttrBy
  refine wpN.first (wpAny_mkText (wpN.hold (wpN.first (L0.at (wpN.first (L1.at ?_))))))
  show wpN _ _ (getAttrEveryday _ _ _) _ _ _
  refine wpN.bind (wpN.raise (wpN.runValue (codeN.builtin (by decide) PySem.F.plainObj_entry_getattr_hooked ?_)))
  rw [Around.under_plainId (by decide +kernel)]
  refine wpN.first (wpAny_pure (wpN.first (L0.at (wpN.first (L2.at (wpN.first (L3.at ?_)))))))
  show wpN _ _ (holding [a] (PySem.call g [a, .ref x, .ref C]) >>= ret) _ _ _
  exact wpN.bind (wpN.hold (wpN.mono h (fun v s' z => wpN.pure (.of z)) fun e s' z => .of z))

/-! ### the own dict is read -/
noncomputable abbrev instOf (C dx : Addr) : Obj := { cls := .ref C, dict := some dx, data := .plain }
noncomputable abbrev idict (es : Array DictEntry) (ep : Nat) (sl : Array (Option Value)) : Obj := { cls := .type "dict", data := .dict es ep, slots := sl }
theorem stackN {Q : List (Code × Pos) → Shared → Prop} (h : ∀ st, (∀ y ∈ st, isFin y.1 = false) → Q st s) : wpN (model prog w) A stack Q E s := fun Γ p hΓ hn => by
  show Q ((Γ.code, p) :: Γ.below) s
  refine h _ fun y hy => ?_
  rcases List.mem_cons.mp hy with rfl | hy
  · exact hn.top
  · exact hn.low y hy
theorem dictTreeN {cd : ClassData} {es : Array DictEntry} {ep : Nat} {Q : Fin → Shared → Prop} (X : K.In s.heap) (hx : s.heap.get? x = some (instOf C dx)) (hd : s.heap.get? dx = some (idict es ep #[])) (hc : clsIn K C = some cd) (hcd : cd.hasDict = true)
    (h1 : mroIn K C (.type "staticmethod") = some false) (h2 : mroIn K C (.type "classmethod") = some false) (hst : nsIn K cStatics "_thread.count" = some none)
    (h : Q (.done (.ret (.ref dx))) { s with heap := s.heap.update dx fun o => if o.slots.isEmpty then { o with slots := #[Option.none] } else o }) :
    wpN (model prog w) A (Builtin.«function.__dict__» ⟨[.ref x], []⟩) Q E s := by
  have LT : Looks (model prog w) s.heap (typeOf (.ref x)) (.ref C) := (Looks.ld (part := none) hx).andThen .now
  have L1 : Looks (model prog w) s.heap (isInstance (.ref x) (.type "staticmethod")) false := LT.andThen (looks_mroIn X h1)
  have L2 : Looks (model prog w) s.heap (isInstance (.ref x) (.type "classmethod")) false := LT.andThen (looks_mroIn X h2)
  unfold Builtin.«function.__dict__»
  refine wpN.first (wpAny_bind (L1.here (L2.here ?_)))
  show wpN _ _ (instanceDictHandedOut x >>= _) _ _ _
  refine wpN.bind ?_
  unfold instanceDictHandedOut
  have LI : Looks (model prog w) s.heap (instanceDict x true) (some dx) := by
    unfold instanceDict
    refine (Looks.ld hx).andThen ?_
    refine (looks_clsIn X hc).andThen ?_
    rw [hcd]
    exact .now
  refine wpN.first (LI.here ?_)
  refine wpN.first (wpAny_loadPart hx ?_)
  dsimp only [instOf]
  refine wpN.bind ?_
  show wpN _ _ (load dx >>= _) _ _ _
  refine wpN.first (wpAny_load hd ?_)
  refine wpN.mono (Q := fun a s' => a = Option.none ∧ s' = s) ?_ (fun a s' ⟨e1, e2⟩ => ?_) fun _ _ e => e
  · dsimp only
    split
    · exact wpN.pure ⟨rfl, rfl⟩
    · refine wpN.bind (stackN fun st hs => ?_)
      split
      · rename_i mode gone he
        obtain ⟨y, hy, e⟩ := List.exists_of_findSome?_eq_some he
        have := hs y hy
        split at e
        · rename_i e'
          rw [e', yesFin] at this
          cases this
        · cases e
      · refine wpN.first ((looks_nsIn X hst).here ?_)
        exact wpN.pure ⟨rfl, rfl⟩
  · subst e1 e2
    refine wpN.first (wpAny_update hd ?_)
    exact wpN.pure (wpN.pure h)
end
end Mine
end
section
open PySem PySem.W PyProof.Rows
set_option maxRecDepth 100000
set_option Elab.async false
namespace Mine

theorem cons_of {α : Type} {us : List α} {n : Nat} (h : us.length = n + 1) : ∃ a r, us = a :: r ∧ r.length = n := by
  cases us with
  | nil => cases h
  | cons a r => exact ⟨a, r, rfl, Nat.succ.inj h⟩
theorem hb1 {α : Type} {P : List α → Prop} (k : ∀ a, P [a]) : ∀ us : List α, us.length = 1 → P us := fun us h => by
  obtain ⟨a, r, rfl, h'⟩ := cons_of h
  obtain rfl := List.length_eq_zero_iff.mp h'
  exact k a
theorem hb2 {α : Type} {P : List α → Prop} (k : ∀ a b, P [a, b]) : ∀ us : List α, us.length = 2 → P us := fun us h => by
  obtain ⟨a, r, rfl, h'⟩ := cons_of h
  exact hb1 (P := fun r => P (a :: r)) (k a) r h'
theorem hb3 {α : Type} {P : List α → Prop} (k : ∀ a b c, P [a, b, c]) : ∀ us : List α, us.length = 3 → P us := fun us h => by
  obtain ⟨a, r, rfl, h'⟩ := cons_of h
  exact hb2 (P := fun r => P (a :: r)) (k a) r h'
theorem hb4 {α : Type} {P : List α → Prop} (k : ∀ a b c d, P [a, b, c, d]) : ∀ us : List α, us.length = 4 → P us := fun us h => by
  obtain ⟨a, r, rfl, h'⟩ := cons_of h
  exact hb3 (P := fun r => P (a :: r)) (k a) r h'
theorem hb6 {α : Type} {P : List α → Prop} (k : ∀ a b c d e f, P [a, b, c, d, e, f]) : ∀ us : List α, us.length = 6 → P us := fun us h => by
  obtain ⟨a, r, rfl, h'⟩ := cons_of h
  obtain ⟨b, r', rfl, h''⟩ := cons_of h'
  exact hb4 (P := fun r => P (a :: b :: r)) (k a b) r' h''
/-- the program -/
noncomputable abbrev pg : Program := PySem.Challenge.pw_ej5013_01

/-- values without their tokens -/
inductive Val where
  | none | bool (b : Bool) | int (i : Int) | flt (x : UInt64) | str (s : Str) | ref (a : Addr) | type (n : String) | bi (n : String) | oth (v : Value)
noncomputable def er : Value → Val
  | .none => .none
  | .bool b => .bool b
  | .int i _ => .int i
  | .float x _ => .flt x
  | .str s _ => .str s
  | .ref a => .ref a
  | .type n => .type n
  | .builtin n => .bi n
  | v => .oth v
theorem er_int {v : Value} {i : Int} (h : er v = .int i) : ∃ t, v = .int i t := by cases v <;> simp [er] at h; exact ⟨_, by rw [h]⟩
theorem er_str {v : Value} {i : Str} (h : er v = .str i) : ∃ t, v = .str i t := by cases v <;> simp [er] at h; exact ⟨_, by rw [h]⟩
theorem er_flt {v : Value} {i : UInt64} (h : er v = .flt i) : ∃ t, v = .float i t := by cases v <;> simp [er] at h; exact ⟨_, by rw [h]⟩
theorem er_ref {v : Value} {a : Addr} (h : er v = .ref a) : v = .ref a := by cases v <;> simp [er] at h; rw [h]
theorem er_bool {v : Value} {a : Bool} (h : er v = .bool a) : v = .bool a := by cases v <;> simp [er] at h; rw [h]
theorem er_none {v : Value} (h : er v = .none) : v = .none := by cases v <;> simp [er] at h; rfl
theorem er_type {v : Value} {a : String} (h : er v = .type a) : v = .type a := by cases v <;> simp [er] at h; rw [h]
theorem er_bi {v : Value} {a : String} (h : er v = .bi a) : v = .builtin a := by cases v <;> simp [er] at h; rw [h]

/-- what a statement hands on -/
inductive Fl where
  | next | brk | cont | ret (v : Val)
noncomputable def erF : Flow → Fl
  | .next => .next
  | .brk => .brk
  | .cont => .cont
  | .ret v => .ret (er v)

/-- locals: every local name of the block, with what it holds -/
noncomputable abbrev LM := List (Str × Option Val)

/-- a frame's fixed part -/
structure Fm where
  env : Env
  cells : List (Str × Addr)
  globs : List (Str × Value)

inductive Cell where
  | list (vs : List Val)
  | tup (vs : List Val)
  | dI (kvs : List (Int × Val)) (ep : Nat)
  | dS (kvs : List (Str × Val))
  | fr (f : Fm) (m : LM)
  | inst (C d : Addr)
  | cel (v : Option Val)
  | obj (o : Obj)
  | lit (l : Addr) (i : Nat)
  | pr (P : Obj → Prop)
  | dD (kvs : List (Str × Val)) (out : Bool)

noncomputable abbrev K0 (w : World) : Frag := K1 w.params
noncomputable abbrev M0 (w : World) : Model := model pg w

/-- what a global name gives -/
noncomputable def GVal (w : World) (x : Str) (v : Value) : Prop :=
  nsIn (K0 w) mainGlobals x = some (some v) ∨ (nsIn (K0 w) mainGlobals x = some none ∧ bootBuiltins x = some v ∧ x ≠ "__name__")

structure FmOk (w : World) (f : Fm) (m : LM) : Prop where
  kind : f.env.scope.kind = .function
  glob : f.env.globals = mainGlobals
  bi : f.env.builtins = builtinsNs
  loc : ∀ x ∈ m.map (·.1), f.env.kindOf x = some .local
  nodup : (m.map (·.1)).Nodup
  cell : ∀ p ∈ f.cells, (f.env.kindOf p.1 = some .cell ∨ (f.env.kindOf p.1 = some .free ∧ (p.1 == ("__classdict__" : Str)) = false)) ∧ f.env.cells.lookup p.1 = some p.2
  gl : ∀ p ∈ f.globs, f.env.kindOf p.1 = some .globalImplicit ∧ GVal w p.1 p.2
  dbg : (∀ x ∈ m.map (·.1), (x == ("__debug__" : Str)) = false) ∧ (∀ x ∈ f.cells, (x.1 == ("__debug__" : Str)) = false) ∧ (∀ x ∈ f.globs, (x.1 == ("__debug__" : Str)) = false)

noncomputable def CellAt (w : World) (h : Heap) (a : Addr) : Cell → Prop
  | .list vs => ∃ (items : Array Value) (n : Nat), h.get? a = some { cls := .type "list", data := .seq items n } ∧ items.toList.map er = vs
  | .tup vs => ∃ (items : Array Value) (n : Nat), h.get? a = some { cls := .type "tuple", data := .seq items n } ∧ items.toList.map er = vs
  | .dI kvs ep => ∃ kvs' : List (Int × Value), h.DictAt (intKind pg w) a kvs' ep ∧ kvs'.map (fun p => (p.1, er p.2)) = kvs
  | .dS kvs => ∃ kvs' : List (Str × Value), h.DictOf (PySem.strKind pg w) a kvs' ∧ kvs'.map (fun p => (p.1, er p.2)) = kvs
  | .fr f m => f.env.locals = a ∧ FmOk w f m ∧ ∃ mm, h.Ns a mm ∧ ∀ p ∈ m, (mm p.1).map er = p.2
  | .inst C d => h.get? a = some { cls := .ref C, dict := some d, data := .plain }
  | .cel v => ∃ u, h.IsCell a u ∧ u.map er = v
  | .obj o => h.get? a = some o
  | .lit l i => h.IsListIter a l i
  | .pr P => ∃ o, h.get? a = some o ∧ P o
  | .dD kvs out => ∃ (es : Array DictEntry) (ep : Nat) (kvs' : List (Str × Value)), h.get? a = some (idict es ep (if out then #[Option.none] else #[])) ∧ PySem.KeysOf (PySem.strKind pg w) es ∧
      PySem.Pairs (PySem.strKind pg w) es.toList kvs' ∧ (kvs'.map (·.1)).Nodup ∧ kvs'.map (fun p => (p.1, er p.2)) = kvs

theorem CellAt.ex {w : World} {h : Heap} {a : Addr} : ∀ {c : Cell}, CellAt w h a c → ∃ o, h.get? a = some o
  | .list _, ⟨_, _, ho, _⟩ => ⟨_, ho⟩
  | .tup _, ⟨_, _, ho, _⟩ => ⟨_, ho⟩
  | .dI _ _, ⟨_, ⟨o, _, ho, _⟩, _⟩ => ⟨o, ho⟩
  | .dS _, ⟨_, ⟨o, _, _, ho, _⟩, _⟩ => ⟨o, ho⟩
  | .fr _ _, ⟨_, _, _, ⟨o, _, _, ho, _⟩, _⟩ => ⟨o, ho⟩
  | .inst _ _, e => ⟨_, e⟩
  | .cel _, ⟨_, ⟨o, ho, _⟩, _⟩ => ⟨o, ho⟩
  | .obj _, e => ⟨_, e⟩
  | .lit _ _, ⟨o, ho, _⟩ => ⟨o, ho⟩
  | .pr _, ⟨o, ho, _⟩ => ⟨o, ho⟩
  | .dD _ _, ⟨_, _, _, ho, _⟩ => ⟨_, ho⟩
theorem CellAt.keep {w : World} {h h' : Heap} {a : Addr} (k : ∀ o, h.get? a = some o → h'.get? a = some o) : ∀ {c : Cell}, CellAt w h a c → CellAt w h' a c
  | .list _, ⟨i, n, ho, e⟩ => ⟨i, n, k _ ho, e⟩
  | .tup _, ⟨i, n, ho, e⟩ => ⟨i, n, k _ ho, e⟩
  | .dI _ _, ⟨i, ⟨o, es, ho, r⟩, e⟩ => ⟨i, ⟨o, es, k _ ho, r⟩, e⟩
  | .dS _, ⟨i, ⟨o, es, ep, ho, r⟩, e⟩ => ⟨i, ⟨o, es, ep, k _ ho, r⟩, e⟩
  | .fr _ _, ⟨l, f, mm, ⟨o, es, ep, ho, r⟩, e⟩ => ⟨l, f, mm, ⟨o, es, ep, k _ ho, r⟩, e⟩
  | .inst _ _, e => k _ e
  | .cel _, ⟨u, ⟨o, ho, r⟩, e⟩ => ⟨u, ⟨o, k _ ho, r⟩, e⟩
  | .obj _, e => k _ e
  | .lit _ _, ⟨o, ho, r⟩ => ⟨o, k _ ho, r⟩
  | .pr _, ⟨o, ho, r⟩ => ⟨o, k _ ho, r⟩
  | .dD _ _, ⟨es, ep, kv, ho, r⟩ => ⟨es, ep, kv, k _ ho, r⟩

/-- the heap as we see it -/
noncomputable abbrev Sig := Addr → Option Cell
noncomputable def Sig.upd (σ : Sig) (a : Addr) (c : Cell) : Sig := fun b => if b = a then some c else σ b
noncomputable def Sig.del (σ : Sig) (a : Addr) : Sig := fun b => if b = a then none else σ b
theorem Sig.upd_self {σ : Sig} {a : Addr} {c : Cell} : σ.upd a c a = some c := if_pos rfl
theorem Sig.upd_ne {σ : Sig} {a b : Addr} {c : Cell} (h : b ≠ a) : σ.upd a c b = σ b := if_neg h
theorem Sig.upd_upd {σ : Sig} {a : Addr} {c d : Cell} : (σ.upd a c).upd a d = σ.upd a d := by funext b; unfold upd; split <;> rfl
theorem Sig.upd_comm {σ : Sig} {a b : Addr} {c d : Cell} (h : a ≠ b) : (σ.upd a c).upd b d = (σ.upd b d).upd a c := by
  funext x; unfold upd; by_cases h1 : x = a <;> by_cases h2 : x = b <;> simp [h1, h2]
  · subst h1; exact absurd h2 h
  · intro e; exact absurd e h
  · intro e; exact absurd e.symm h
theorem Sig.upd_none {σ : Sig} {a b : Addr} {c : Cell} (h : σ.upd a c b = none) : b ≠ a ∧ σ b = none := by
  unfold upd at h; split at h
  · cases h
  · exact ⟨by assumption, h⟩
theorem Sig.ne {σ : Sig} {a b : Addr} {c : Cell} (h : σ a = some c) (h' : σ b = none) : a ≠ b := fun e => by rw [e, h'] at h; cases h
theorem Sig.upd_same {σ : Sig} {a : Addr} {c : Cell} (h : σ a = some c) : σ.upd a c = σ := by
  funext b; unfold upd; split
  · rename_i e; rw [e, h]
  · rfl

noncomputable abbrev Phi := List (Addr × Cell)

structure Bd where
  w : World
  H : Heap
  s₀ : Shared

/-- what the base heap bears -/
structure Bs (w : World) (H : Heap) : Prop where
  K : (K0 w).In H
  top : ∃ loose mean mg mb, Top topProg loose mean mg mb H

structure St (B : Bd) (φ : Phi) (σ : Sig) (s : Shared) : Prop where
  bs : Bs B.w B.H
  base : ∃ h tk, s = { B.s₀ with heap := h, toks := tk }
  keep : ∀ b o, B.H.get? b = some o → s.heap.get? b = some o
  sg : ∀ a c, σ a = some c → CellAt B.w s.heap a c ∧ B.H.get? a = none ∧ 3 < a
  ph : ∀ p ∈ φ, CellAt B.w s.heap p.1 p.2 ∧ B.H.get? p.1 = none ∧ σ p.1 = none ∧ 3 < p.1
  nd : (φ.map (·.1)).Nodup

section
variable {B : Bd} {φ : Phi} {σ : Sig} {s : Shared}
theorem St.big (S : St B φ σ s) : 3 < s.heap.objs.size := by
  obtain ⟨_, _, _, _, T⟩ := S.bs.top
  obtain ⟨o, es, ep, ho, _⟩ := T.g
  exact Heap.lt_size (S.keep _ _ ho)
theorem St.fresh (S : St B φ σ s) : σ s.heap.objs.size = none ∧ (∀ p ∈ φ, p.1 ≠ s.heap.objs.size) ∧ B.H.get? s.heap.objs.size = none := by
  refine ⟨?_, fun p hp e => ?_, ?_⟩
  · cases h : σ s.heap.objs.size with
    | none => rfl
    | some c =>
      obtain ⟨o, ho⟩ := (S.sg _ _ h).1.ex
      exact absurd (Heap.lt_size ho) (Nat.lt_irrefl _)
  · obtain ⟨o, ho⟩ := (S.ph p hp).1.ex
    exact absurd (Heap.lt_size ho) (e ▸ Nat.lt_irrefl _)
  · cases h : B.H.get? s.heap.objs.size with
    | none => rfl
    | some c => exact absurd (Heap.lt_size (S.keep _ _ h)) (Nat.lt_irrefl _)
theorem St.toks (S : St B φ σ s) (tk : Nat) : St B φ σ { s with toks := tk } := by
  obtain ⟨a, ⟨h, t, e⟩, c, d, f, g⟩ := S
  exact ⟨a, ⟨h, tk, by rw [e]⟩, c, d, f, g⟩
/-- the heap has grown by things that nobody names -/
theorem St.ext (S : St B φ σ s) {h' : Heap} {tk : Nat} (k : ∀ b o, s.heap.get? b = some o → h'.get? b = some o) : St B φ σ { s with heap := h', toks := tk } := by
  obtain ⟨a, ⟨h, t, e⟩, c, d, f, g⟩ := S
  exact ⟨a, ⟨h', tk, by rw [e]⟩, fun b o q => k _ _ (c b o q), fun x y q => ⟨CellAt.keep (k x) (d x y q).1, (d x y q).2⟩, fun p q => ⟨CellAt.keep (k p.1) (f p q).1, (f p q).2⟩, g⟩
/-- a cell of ours turns -/
theorem St.upd (S : St B φ σ s) {a : Addr} {c c' : Cell} {h' : Heap} {tk : Nat} (ha : σ a = some c) (k : ∀ b o, b ≠ a → s.heap.get? b = some o → h'.get? b = some o) (hc : CellAt B.w h' a c') :
    St B φ (σ.upd a c') { s with heap := h', toks := tk } := by
  obtain ⟨b, ⟨h, t, e⟩, kp, d, f, g⟩ := S
  have na := (d a c ha).2
  refine ⟨b, ⟨h', tk, by rw [e]⟩, fun x o q => k x o (fun z => by rw [z, na.1] at q; cases q) (kp x o q), fun x y q => ?_, fun p q => ?_, g⟩
  · unfold Sig.upd at q
    split at q
    · rename_i z; cases q; subst z; exact ⟨hc, na⟩
    · rename_i z; exact ⟨CellAt.keep (fun o => k x o z) (d x y q).1, (d x y q).2⟩
  · have hp : p.1 ≠ a := fun z => by have := (f p q).2.2.1; rw [z, ha] at this; cases this
    exact ⟨CellAt.keep (fun o => k _ o hp) (f p q).1, (f p q).2.1, by rw [Sig.upd_ne hp]; exact (f p q).2.2.1, (f p q).2.2.2⟩
/-- a new cell -/
theorem St.alloc (S : St B φ σ s) {c : Cell} {h' : Heap} {tk : Nat} (k : ∀ b o, s.heap.get? b = some o → h'.get? b = some o) (hc : CellAt B.w h' s.heap.objs.size c) :
    St B φ (σ.upd s.heap.objs.size c) { s with heap := h', toks := tk } := by
  have fr := S.fresh
  have bg := S.big
  obtain ⟨b, ⟨h, t, e⟩, kp, d, f, g⟩ := S
  refine ⟨b, ⟨h', tk, by rw [e]⟩, fun x o q => k x o (kp x o q), fun x y q => ?_, fun p q => ?_, g⟩
  · unfold Sig.upd at q
    split at q
    · rename_i z; cases q; subst z; exact ⟨hc, fr.2.2, bg⟩
    · exact ⟨CellAt.keep (k x) (d x y q).1, (d x y q).2⟩
  · exact ⟨CellAt.keep (k _) (f p q).1, (f p q).2.1, by rw [Sig.upd_ne (fr.2.1 p q)]; exact (f p q).2.2.1, (f p q).2.2.2⟩
/-- the first hidden cell turns -/
theorem St.head {a : Addr} {c c' : Cell} (S : St B ((a, c) :: φ) σ s) {h' : Heap} {tk : Nat} (k : ∀ b o, b ≠ a → s.heap.get? b = some o → h'.get? b = some o) (hc : CellAt B.w h' a c') :
    St B ((a, c') :: φ) σ { s with heap := h', toks := tk } := by
  obtain ⟨b, ⟨h, t, e⟩, kp, d, f, g⟩ := S
  have na := (f _ (.head _)).2
  have nd : a ∉ φ.map (·.1) := (List.nodup_cons.mp g).1
  refine ⟨b, ⟨h', tk, by rw [e]⟩, fun x o q => k x o (fun z => by rw [z, na.1] at q; cases q) (kp x o q), fun x y q => ?_, fun p q => ?_, g⟩
  · exact ⟨CellAt.keep (fun o => k x o fun z => by rw [z, na.2.1] at q; cases q) (d x y q).1, (d x y q).2⟩
  · rcases List.mem_cons.mp q with rfl | q
    · exact ⟨hc, na⟩
    · have := f p (.tail _ q)
      exact ⟨CellAt.keep (fun o => k _ o fun z => nd (by rw [← z]; exact List.mem_map_of_mem q)) this.1, this.2⟩
theorem St.hide {a : Addr} {c : Cell} (S : St B φ σ s) (ha : σ a = some c) : St B ((a, c) :: φ) (σ.del a) s := by
  obtain ⟨b, e, kp, d, f, g⟩ := S
  have na : ∀ p ∈ φ, p.1 ≠ a := fun p hp z => by have := (f p hp).2.2.1; rw [z, ha] at this; cases this
  refine ⟨b, e, kp, fun x y q => ?_, fun p q => ?_, List.nodup_cons.mpr ⟨fun q => ?_, g⟩⟩
  · unfold Sig.del at q; split at q
    · cases q
    · exact d x y q
  · rcases List.mem_cons.mp q with rfl | q
    · exact ⟨(d a c ha).1, (d a c ha).2.1, if_pos rfl, (d a c ha).2.2⟩
    · exact ⟨(f p q).1, (f p q).2.1, (if_neg (na p q)).trans (f p q).2.2.1, (f p q).2.2.2⟩
  · obtain ⟨p, hp, e⟩ := List.mem_map.mp q
    exact na p hp e
theorem St.show {a : Addr} {c : Cell} (S : St B ((a, c) :: φ) σ s) : St B φ (σ.upd a c) s ∧ σ a = none := by
  obtain ⟨b, e, kp, d, f, g⟩ := S
  have na := f _ (.head _)
  have nd := List.nodup_cons.mp g
  refine ⟨⟨b, e, kp, fun x y q => ?_, fun p q => ?_, nd.2⟩, na.2.2.1⟩
  · unfold Sig.upd at q; split at q
    · rename_i z; cases q; subst z; exact ⟨na.1, na.2.1, na.2.2.2⟩
    · exact d x y q
  · have := f p (.tail _ q)
    exact ⟨this.1, this.2.1, (Sig.upd_ne fun z => nd.1 (List.mem_map.mpr ⟨p, q, z⟩)).trans this.2.2.1, this.2.2.2⟩
theorem St.swap {p q : Addr × Cell} (S : St B (p :: q :: φ) σ s) : St B (q :: p :: φ) σ s := by
  obtain ⟨b, e, kp, d, f, g⟩ := S
  refine ⟨b, e, kp, d, fun x hx => f x ?_, ?_⟩
  · simp only [List.mem_cons] at hx ⊢; rcases hx with h | h | h <;> simp [h]
  · simp only [List.map_cons, List.nodup_cons, List.mem_cons, not_or] at g ⊢
    exact ⟨⟨fun e => g.1.1 e.symm, g.2.1⟩, g.1.2, g.2.2⟩
theorem St.drop {a : Addr} {c : Cell} (S : St B ((a, c) :: φ) σ s) : St B φ σ s := by
  obtain ⟨b, e, kp, d, f, g⟩ := S
  exact ⟨b, e, kp, d, fun p q => f p (.tail _ q), (List.nodup_cons.mp g).2⟩
/-- forget -/
theorem St.le {σ' : Sig} (S : St B φ σ s) (h : ∀ a c, σ' a = some c → σ a = some c) : St B φ σ' s := by
  obtain ⟨b, e, kp, d, f, g⟩ := S
  refine ⟨b, e, kp, fun x y q => d x y (h x y q), fun p q => ⟨(f p q).1, (f p q).2.1, ?_, (f p q).2.2.2⟩, g⟩
  cases z : σ' p.1 with
  | none => rfl
  | some c => have := h _ _ z; rw [(f p q).2.2.1] at this; cases this
theorem St.look (S : St B φ σ s) {a : Addr} {c : Cell} (h : σ a = some c) : CellAt B.w s.heap a c := (S.sg a c h).1
theorem St.kin (S : St B φ σ s) : (K0 B.w).In s.heap := fun a o e => S.keep a o (S.bs.K a o e)
theorem St.nolim (S : St B φ σ s) : s.heap.NoLimit := by
  obtain ⟨_, _, _, _, T⟩ := S.bs.top
  exact T.nolimit.keeps S.keep
theorem St.sys (S : St B φ σ s) {a : Addr} {c : Cell} (h : σ a = some c) : (a == sysModules) = false := by
  have := (S.sg a c h).2.2
  refine beq_eq_false_iff_ne.mpr fun e => ?_
  have e' : a = 1 := e
  rw [e'] at this
  exact absurd this (by decide)
end

/-- no exception is being handled, or one without a context -/
noncomputable def HdOk (A : Around) (φ : Phi) : Prop :=
  A.handled = none ∨ ∃ a P, A.handled = some (.ref a) ∧ (a, Cell.pr P) ∈ φ ∧ ∀ o, P o → ∃ fs : Array Value, o.data = .fields fs ∧ fs[2]? = some .none
theorem HdOk.cons {A : Around} {φ : Phi} {p : Addr × Cell} : HdOk A φ → HdOk A (p :: φ)
  | .inl h => .inl h
  | .inr ⟨a, P, h, m, r⟩ => .inr ⟨a, P, h, .tail _ m, r⟩
theorem HdOk.turn {A : Around} {φ : Phi} {L : Addr} {f f' : Fm} {m m' : LM} : HdOk A ((L, .fr f m) :: φ) → HdOk A ((L, .fr f' m') :: φ)
  | .inl h => .inl h
  | .inr ⟨a, P, h, m, r⟩ => .inr ⟨a, P, h, by
    rcases List.mem_cons.mp m with c | c
    · exact nomatch (Prod.mk.inj c).2
    · exact .tail _ c, r⟩
theorem HdOk.perm {A : Around} {φ ψ : Phi} (k : ∀ p ∈ φ, p ∈ ψ) : HdOk A φ → HdOk A ψ
  | .inl h => .inl h
  | .inr ⟨a, P, h, m, r⟩ => .inr ⟨a, P, h, k _ m, r⟩
/-- the frames that are about: each has its cell among the hidden ones -/
noncomputable def FrOk (A : Around) (φ : Phi) : Prop := HdOk A φ ∧ ∃ l, A.frames = some l ∧ ∀ env ∈ l, env.scope.kind ≠ .module ∧ ∃ L f m, env.frame = some L ∧ (L, Cell.fr f m) ∈ φ
theorem FrOk.perm {A : Around} {φ ψ : Phi} (k : ∀ p ∈ φ, p ∈ ψ) (h : FrOk A φ) : FrOk A ψ :=
  let ⟨h0, l, e, q⟩ := h; ⟨h0.perm k, l, e, fun env he => let ⟨a, L, f, m, b, c⟩ := q env he; ⟨a, L, f, m, b, k _ c⟩⟩
theorem FrOk.cons {A : Around} {φ : Phi} {p : Addr × Cell} (h : FrOk A φ) : FrOk A (p :: φ) := h.perm fun _ => .tail _
theorem FrOk.swap {A : Around} {φ : Phi} {p q : Addr × Cell} (h : FrOk A (p :: q :: φ)) : FrOk A (q :: p :: φ) := h.perm fun x hx => by
  simp only [List.mem_cons] at hx ⊢; rcases hx with h | h | h <;> simp [h]
theorem FrOk.turn {A : Around} {φ : Phi} {L : Addr} {f f' : Fm} {m m' : LM} (h : FrOk A ((L, .fr f m) :: φ)) : FrOk A ((L, .fr f' m') :: φ) :=
  let ⟨h0, l, e, k⟩ := h; ⟨h0.turn, l, e, fun env he => let ⟨a, L, g, n, b, c⟩ := k env he; ⟨a, by
    rcases List.mem_cons.mp c with c | c
    · obtain ⟨h1, _⟩ := Prod.mk.inj c
      exact ⟨L, f', m', b, by rw [h1]; exact .head _⟩
    · exact ⟨L, g, n, b, .tail _ c⟩⟩⟩
theorem FrOk.deeper {A : Around} {φ : Phi} {env : Env} {L : Addr} {f : Fm} {m : LM} (h : FrOk A φ) (hk : env.scope.kind ≠ .module) (hf : env.frame = some L) : FrOk (A.deeper env) ((L, .fr f m) :: φ) :=
  let ⟨h0, l, e, k⟩ := h
  ⟨h0.cons, env :: l, by show A.frames.map (env :: ·) = _; rw [e]; rfl, fun e' he => by
    rcases List.mem_cons.mp he with rfl | he
    · exact ⟨hk, L, f, m, hf, .head _⟩
    · let ⟨a, L, g, n, b, c⟩ := k e' he
      exact ⟨a, L, g, n, b, .tail _ c⟩⟩
theorem FrOk.in1 {A : Around} {φ : Phi} (h : FrOk A φ) : FrOk A.in1 φ := h
/-- a tree's triple -/
noncomputable def T (B : Bd) (φ : Phi) (A : Around) {α : Type} (t : Sem α) (σ : Sig) (Q : α → Sig → Prop) (E : Value → Shared → Prop) : Prop :=
  ∀ s, FrOk A φ → St B φ σ s → wpAny (M0 B.w) A t (fun a s' => ∃ σ', St B φ σ' s' ∧ Q a σ') E s
/-- an expression's -/
noncomputable def Ev (B : Bd) (φ : Phi) (A : Around) (f : Fm) (m : LM) (e : Expr) (σ : Sig) (Q : Val → Sig → Prop) (E : Value → Shared → Prop) : Prop :=
  T B ((f.env.locals, .fr f m) :: φ) A (eval e f.env) σ (fun v => Q (er v)) E
/-- a test's -/
noncomputable def Bt (B : Bd) (φ : Phi) (A : Around) (f : Fm) (m : LM) (e : Expr) (σ : Sig) (Q : Bool → Sig → Prop) (E : Value → Shared → Prop) : Prop :=
  T B ((f.env.locals, .fr f m) :: φ) A (isTrue e f.env (eval e f.env)) σ Q E
/-- a tree that may store into its frame -/
noncomputable def X (B : Bd) (φ : Phi) (A : Around) (f : Fm) (m : LM) {α : Type} (t : Sem α) (σ : Sig) (Q : α → LM → Sig → Prop) (E : Value → Shared → Prop) : Prop :=
  ∀ s, FrOk A ((f.env.locals, .fr f m) :: φ) → St B ((f.env.locals, .fr f m) :: φ) σ s → wpAny (M0 B.w) A t (fun a s' => ∃ m' σ', St B ((f.env.locals, .fr f m') :: φ) σ' s' ∧ Q a m' σ') E s
noncomputable def Ex (B : Bd) (φ : Phi) (A : Around) (f : Fm) (m : LM) (st : Stmt) (σ : Sig) (Q : Fl → LM → Sig → Prop) (E : Value → Shared → Prop) : Prop :=
  X B φ A f m (exec st f.env) σ (fun r => Q (erF r)) E
noncomputable def Es (B : Bd) (φ : Phi) (A : Around) (f : Fm) (m : LM) (st : List Stmt) (σ : Sig) (Q : Fl → LM → Sig → Prop) (E : Value → Shared → Prop) : Prop :=
  X B φ A f m (execs st f.env) σ (fun r => Q (erF r)) E

section
variable {B : Bd} {φ : Phi} {A : Around} {f : Fm} {m : LM} {σ : Sig} {α β : Type} {E : Value → Shared → Prop}
theorem T.mono {t : Sem α} {Q Q' : α → Sig → Prop} (h : T B φ A t σ Q E) (k : ∀ a σ', Q a σ' → Q' a σ') : T B φ A t σ Q' E :=
  fun s F S => wpAny_mono (h s F S) (fun a _ ⟨σ', S', q⟩ => ⟨σ', S', k a σ' q⟩) fun _ _ e => e
theorem Ev.mono {e : Expr} {Q Q' : Val → Sig → Prop} (h : Ev B φ A f m e σ Q E) (k : ∀ a σ', Q a σ' → Q' a σ') : Ev B φ A f m e σ Q' E := T.mono h fun _ _ => k _ _
theorem Bt.mono {e : Expr} {Q Q' : Bool → Sig → Prop} (h : Bt B φ A f m e σ Q E) (k : ∀ a σ', Q a σ' → Q' a σ') : Bt B φ A f m e σ Q' E := T.mono h fun _ _ => k _ _
end

/-- room for calls -/
structure AOk (A : Around) (n : Nat) : Prop where
  d : A.depth + 5 * n < 1000
  u : A.units + 100 * n < 9900
theorem AOk.le {A : Around} {n k : Nat} (h : AOk A n) (l : k ≤ n) : AOk A k := ⟨by have := h.d; omega, by have := h.u; omega⟩
theorem AOk.deeper {A : Around} {n k : Nat} {env : Env} (h : AOk A n) (l : k + 1 ≤ n) : AOk (A.deeper env) k :=
  ⟨by have := h.d; show A.depth + 1 + 5 * k < 1000; omega, by have := h.u; show A.units + 3 + 100 * k < 9900; omega⟩
theorem AOk.in1 {A : Around} {n k : Nat} (h : AOk A n) (l : k + 1 ≤ n) : AOk A.in1 k := ⟨by have := h.d; show A.depth + 5 * k < 1000; omega, by have := h.u; show A.units + 1 + 100 * k < 9900; omega⟩
end Mine
end
section
open PySem PySem.W PyProof.Rows
set_option maxRecDepth 100000
set_option Elab.async false
set_option linter.unusedVariables false
namespace Mine
section
variable {B : Bd} {φ : Phi} {A : Around} {f : Fm} {m : LM} {σ : Sig} {E : Value → Shared → Prop}

/-! ### names -/
theorem Ev.loc {x : Str} {pos : Pos} {v : Val} {Q : Val → Sig → Prop} (h : (x, some v) ∈ m) (q : Q v σ) : Ev B φ A f m (.Name x pos) σ Q E := fun s F S => by
  obtain ⟨_, ok, mm, hn, hm⟩ := (S.ph _ (.head _)).1
  have hx := List.mem_map_of_mem (f := (·.1)) h
  have e := hm _ h
  cases q' : mm x with
  | none => simp only [q', Option.map_none] at e; cases e
  | some u =>
    simp only [q', Option.map_some, Option.some.injEq] at e
    subst e
    exact wpAny_Name (wpAny_loadName_local ok.kind (ok.loc _ hx) hn q' ⟨σ, S, q⟩) (ok.dbg.1 _ hx)
theorem Ev.cel {x : Str} {pos : Pos} {c : Addr} {v : Val} {Q : Val → Sig → Prop} (h : (x, c) ∈ f.cells) (hc : σ c = some (.cel (some v))) (q : Q v σ) : Ev B φ A f m (.Name x pos) σ Q E := fun s F S => by
  obtain ⟨_, ok, mm, hn, hm⟩ := (S.ph _ (.head _)).1
  obtain ⟨u, hu, e⟩ := S.look hc
  have k := ok.cell _ h
  cases u with
  | none => cases e
  | some u =>
    simp only [Option.map_some, Option.some.injEq] at e
    subst e
    refine wpAny_Name ?_ (ok.dbg.2.1 _ h)
    rcases k.1 with k1 | ⟨k1, k2⟩
    · exact wpAny_loadName_cell ok.kind k1 k.2 hu ⟨σ, S, q⟩
    · exact wpAny_loadName_free ok.kind k1 k.2 hu ⟨σ, S, q⟩ k2
theorem Ev.glob {x : Str} {pos : Pos} {v : Value} {Q : Val → Sig → Prop} (h : (x, v) ∈ f.globs) (q : Q (er v) σ) : Ev B φ A f m (.Name x pos) σ Q E := fun s F S => by
  obtain ⟨_, ok, mm, hn, hm⟩ := (S.ph _ (.head _)).1
  have k := ok.gl _ h
  obtain ⟨loose, mean, mg, mb, T⟩ := S.bs.top
  have hg : s.heap.Ns f.env.globals mg := by rw [ok.glob]; exact T.g.keeps S.keep
  have hb : s.heap.Ns f.env.builtins mb := by rw [ok.bi]; exact T.b.keeps S.keep
  refine wpAny_Name ?_ (ok.dbg.2.2 _ h)
  have ld : ∀ {Q' : Value → Shared → Prop}, wpAny (M0 B.w) A (loadGlobal f.env x) Q' E s → wpAny (M0 B.w) A (loadName f.env x) Q' E s := fun hh => by
    unfold loadName
    simp only [Env.blockKind, ok.kind, k.1, ScopeKind.isAnnotationScope, Bool.false_and, Bool.false_eq_true, if_false]
    exact hh
  refine ld ?_
  rcases k.2 with e | ⟨e1, e2, e3⟩
  · exact Calls.loadGlobal_global hg (mg_of S.bs.K T.g e) ⟨σ, S, q⟩
  · exact Calls.loadGlobal_builtin hg (mg_none_of S.bs.K T.g e1) hb ((T.builtins x e3).trans e2) ⟨σ, S, q⟩

/-! ### constants -/
theorem Ev.int {i : Int} {k : Nat} {pos : Pos} {Q : Val → Sig → Prop} (q : Q (.int i) σ) : Ev B φ A f m (.Constant (.int i) k pos) σ Q E := fun _ _ S => wpAny_Constant_int ⟨σ, S.toks _, q⟩
theorem Ev.str {i : Str} {k : Nat} {pos : Pos} {Q : Val → Sig → Prop} (q : Q (.str i) σ) : Ev B φ A f m (.Constant (.str i) k pos) σ Q E := fun _ _ S => wpAny_Constant_str ⟨σ, S.toks _, q⟩
theorem Ev.bool {i : Bool} {k : Nat} {pos : Pos} {Q : Val → Sig → Prop} (q : Q (.bool i) σ) : Ev B φ A f m (.Constant (.bool i) k pos) σ Q E := fun _ _ S => wpAny_Constant_bool ⟨σ, S, q⟩
theorem Ev.none {k : Nat} {pos : Pos} {Q : Val → Sig → Prop} (q : Q .none σ) : Ev B φ A f m (.Constant .none k pos) σ Q E := fun _ _ S => wpAny_Constant_none ⟨σ, S, q⟩

/-! ### operators -/
noncomputable def Bn (B : Bd) (φ : Phi) (A : Around) (op : Operator) (a b : Val) (σ : Sig) (Q : Val → Sig → Prop) (E : Value → Shared → Prop) : Prop :=
  ∀ u v, er u = a → er v = b → T B φ A (binaryOp op u v) σ (fun r => Q (er r)) E
noncomputable def Cm (B : Bd) (φ : Phi) (A : Around) (op : CmpOp) (a b : Val) (σ : Sig) (Q : Val → Sig → Prop) (E : Value → Shared → Prop) : Prop :=
  ∀ u v, er u = a → er v = b → T B φ A (compareOp op u v) σ (fun r => Q (er r)) E
noncomputable def Un (B : Bd) (φ : Phi) (A : Around) (op : UnaryOp) (a : Val) (σ : Sig) (Q : Val → Sig → Prop) (E : Value → Shared → Prop) : Prop :=
  ∀ u, er u = a → T B φ A (unaryOp op u) σ (fun r => Q (er r)) E
noncomputable def Tr (B : Bd) (φ : Phi) (A : Around) (a : Val) (σ : Sig) (Q : Bool → Sig → Prop) (E : Value → Shared → Prop) : Prop :=
  ∀ u, er u = a → T B φ A (truthy u) σ Q E

theorem Ev.bin {l r : Expr} {op : Operator} {pos : Pos} {Q : Val → Sig → Prop} (h : Ev B φ A f m l σ (fun a σ₁ => Ev B φ A f m r σ₁ (fun b σ₂ => Bn B ((f.env.locals, .fr f m) :: φ) A op a b σ₂ Q E) E) E) :
    Ev B φ A f m (.BinOp l op r pos) σ Q E := fun s F S =>
  wpAny_BinOp (wpAny_mono (h s F S) (fun _ s₁ ⟨_, S₁, h₁⟩ => wpAny_mono (h₁ s₁ F S₁) (fun _ s₂ ⟨_, S₂, h₂⟩ => h₂ _ _ rfl rfl s₂ F S₂) fun _ _ e => e) fun _ _ e => e)
theorem Ev.cmp {l r : Expr} {op : CmpOp} {pos : Pos} {Q : Val → Sig → Prop} (h : Ev B φ A f m l σ (fun a σ₁ => Ev B φ A f m r σ₁ (fun b σ₂ => Cm B ((f.env.locals, .fr f m) :: φ) A op a b σ₂ Q E) E) E)
    (hm : behindInMarks op r = false := by with_unfolding_all rfl) : Ev B φ A f m (.Compare l [op] [r] pos) σ Q E := fun s F S =>
  wpAny_Compare1 (wpAny_mono (h s F S) (fun _ s₁ ⟨_, S₁, h₁⟩ => wpAny_mono (h₁ s₁ F S₁) (fun _ s₂ ⟨_, S₂, h₂⟩ => h₂ _ _ rfl rfl s₂ F S₂) fun _ _ e => e) fun _ _ e => e) hm
theorem Ev.un {x : Expr} {op : UnaryOp} {pos : Pos} {Q : Val → Sig → Prop} (h : Ev B φ A f m x σ (fun a σ₁ => Un B ((f.env.locals, .fr f m) :: φ) A op a σ₁ Q E) E) :
    Ev B φ A f m (.UnaryOp op x pos) σ Q E := fun s F S =>
  wpAny_UnaryOp (wpAny_mono (h s F S) (fun _ s₁ ⟨_, S₁, h₁⟩ => h₁ _ rfl s₁ F S₁) fun _ _ e => e)
theorem Ev.and {x y : Expr} {pos : Pos} {Q : Val → Sig → Prop}
    (h : Ev B φ A f m x σ (fun a σ₁ => Tr B ((f.env.locals, .fr f m) :: φ) A a σ₁ (fun b σ₂ => (b = true → Ev B φ A f m y σ₂ Q E) ∧ (b = false → Q a σ₂)) E) E) :
    Ev B φ A f m (.BoolOp .And [x, y] pos) σ Q E := fun s F S =>
  wpAny_And2 (wpAny_mono (h s F S) (fun _ s₁ ⟨_, S₁, h₁⟩ => wpAny_mono (h₁ _ rfl s₁ F S₁) (fun b s₂ ⟨σ₂, S₂, h₂⟩ => by
    cases b with
    | true => exact h₂.1 rfl s₂ F S₂
    | false => exact ⟨σ₂, S₂, h₂.2 rfl⟩) fun _ _ e => e) fun _ _ e => e)
theorem boolOp_and {M : Model} {A : Around} {E : Value → Shared → Prop} {s : Shared} {pos : Pos} {x y : Sem Value} {r : List (Sem Value)} {Q : Value → Shared → Prop}
    (h : wpAny M A x (fun v s₁ => wpAny M A (truthy v) (fun t s₂ => if t then wpAny M A (boolOp pos .And (y :: r)) Q E s₂ else Q v s₂) E s₁) E s) : wpAny M A (boolOp pos .And (x :: y :: r)) Q E s := by
  unfold boolOp
  refine wpAny_bind (wpAny_mono h (fun v s₁ h₁ => wpAny_bind (wpAny_standAt (wpAny_bind (wpAny_holding (wpAny_mono h₁ (fun t s₂ h₂ => ?_) fun _ _ e => e))))) fun _ _ e => e)
  cases t with
  | true => exact h₂
  | false => exact wpAny_pure h₂
theorem Ev.and3 {x y z : Expr} {pos : Pos} {Q : Val → Sig → Prop}
    (h : Ev B φ A f m x σ (fun a σ₁ => Tr B ((f.env.locals, .fr f m) :: φ) A a σ₁ (fun b σ₂ => (b = true → Ev B φ A f m (.BoolOp .And [y, z] pos) σ₂ Q E) ∧ (b = false → Q a σ₂)) E) E) :
    Ev B φ A f m (.BoolOp .And [x, y, z] pos) σ Q E := fun s F S =>
  boolOp_and (wpAny_mono (h s F S) (fun _ s₁ ⟨_, S₁, h₁⟩ => wpAny_mono (h₁ _ rfl s₁ F S₁) (fun b s₂ ⟨σ₂, S₂, h₂⟩ => by
    cases b with
    | true => exact h₂.1 rfl s₂ F S₂
    | false => exact ⟨σ₂, S₂, h₂.2 rfl⟩) fun _ _ e => e) fun _ _ e => e)
theorem Ev.and4 {x y z z' : Expr} {pos : Pos} {Q : Val → Sig → Prop}
    (h : Ev B φ A f m x σ (fun a σ₁ => Tr B ((f.env.locals, .fr f m) :: φ) A a σ₁ (fun b σ₂ => (b = true → Ev B φ A f m (.BoolOp .And [y, z, z'] pos) σ₂ Q E) ∧ (b = false → Q a σ₂)) E) E) :
    Ev B φ A f m (.BoolOp .And [x, y, z, z'] pos) σ Q E := fun s F S =>
  boolOp_and (wpAny_mono (h s F S) (fun _ s₁ ⟨_, S₁, h₁⟩ => wpAny_mono (h₁ _ rfl s₁ F S₁) (fun b s₂ ⟨σ₂, S₂, h₂⟩ => by
    cases b with
    | true => exact h₂.1 rfl s₂ F S₂
    | false => exact ⟨σ₂, S₂, h₂.2 rfl⟩) fun _ _ e => e) fun _ _ e => e)
theorem Ev.ife {t x y : Expr} {pos : Pos} {Q : Val → Sig → Prop}
    (h : Bt B φ A f m t σ (fun b σ₁ => (b = true → Ev B φ A f m x σ₁ Q E) ∧ (b = false → Ev B φ A f m y σ₁ Q E)) E) :
    Ev B φ A f m (.IfExp t x y pos) σ Q E := fun s F S =>
  wpAny_IfExp (wpAny_mono (h s F S) (fun b s₁ ⟨_, S₁, h₁⟩ => by
    cases b with
    | true => exact h₁.1 rfl s₁ F S₁
    | false => exact h₁.2 rfl s₁ F S₁) fun _ _ e => e)

/-! ### tests -/
theorem Bt.cmp {l r : Expr} {op : CmpOp} {pos : Pos} {Q : Bool → Sig → Prop} (h : Ev B φ A f m l σ (fun a σ₁ => Ev B φ A f m r σ₁ (fun b σ₂ => Cm B ((f.env.locals, .fr f m) :: φ) A op a b σ₂ (fun c σ₃ => Tr B ((f.env.locals, .fr f m) :: φ) A c σ₃ Q E) E) E) E)
    (hm : behindInMarks op r = false := by with_unfolding_all rfl) : Bt B φ A f m (.Compare l [op] [r] pos) σ Q E := fun s F S =>
  wpAny_isTrue_Compare1 (wpAny_mono (h s F S) (fun _ s₁ ⟨_, S₁, h₁⟩ => wpAny_mono (h₁ s₁ F S₁) (fun _ s₂ ⟨_, S₂, h₂⟩ => wpAny_mono (h₂ _ _ rfl rfl s₂ F S₂) (fun _ s₃ ⟨_, S₃, h₃⟩ => h₃ _ rfl s₃ F S₃) fun _ _ e => e) fun _ _ e => e) fun _ _ e => e) hm
theorem Bt.not {x : Expr} {pos : Pos} {Q : Bool → Sig → Prop} (h : Bt B φ A f m x σ (fun b σ₁ => Q (!b) σ₁) E) : Bt B φ A f m (.UnaryOp .Not x pos) σ Q E := fun s F S => wpAny_isTrue_Not (h s F S)
theorem Bt.and_nil {pos : Pos} {Q : Bool → Sig → Prop} (h : Q true σ) : Bt B φ A f m (.BoolOp .And [] pos) σ Q E := fun _ _ S => wpAny_pure (a := true) ⟨σ, S, h⟩
theorem Bt.or_nil {pos : Pos} {Q : Bool → Sig → Prop} (h : Q false σ) : Bt B φ A f m (.BoolOp .Or [] pos) σ Q E := fun _ _ S => wpAny_pure (a := false) ⟨σ, S, h⟩
theorem Bt.and {x : Expr} {r : List Expr} {pos : Pos} {Q : Bool → Sig → Prop} (h : Bt B φ A f m x σ (fun b σ₁ => (b = true → Bt B φ A f m (.BoolOp .And r pos) σ₁ Q E) ∧ (b = false → Q false σ₁)) E) :
    Bt B φ A f m (.BoolOp .And (x :: r) pos) σ Q E := fun s F S =>
  isTrue_and (wpAny_mono (h s F S) (fun b s₁ ⟨σ₁, S₁, h₁⟩ => by
    cases b with
    | true => exact h₁.1 rfl s₁ F S₁
    | false => exact ⟨σ₁, S₁, h₁.2 rfl⟩) fun _ _ e => e)
theorem Bt.or {x : Expr} {r : List Expr} {pos : Pos} {Q : Bool → Sig → Prop} (h : Bt B φ A f m x σ (fun b σ₁ => (b = true → Q true σ₁) ∧ (b = false → Bt B φ A f m (.BoolOp .Or r pos) σ₁ Q E)) E) :
    Bt B φ A f m (.BoolOp .Or (x :: r) pos) σ Q E := fun s F S =>
  isTrue_or (wpAny_mono (h s F S) (fun b s₁ ⟨σ₁, S₁, h₁⟩ => by
    cases b with
    | true => exact ⟨σ₁, S₁, h₁.1 rfl⟩
    | false => exact h₁.2 rfl s₁ F S₁) fun _ _ e => e)
theorem Bt.val {e : Expr} {Q : Bool → Sig → Prop} (h : Ev B φ A f m e σ (fun v σ₁ => Tr B ((f.env.locals, .fr f m) :: φ) A v σ₁ Q E) E)
    (he : isTrue e f.env (eval e f.env) = (do let v ← eval e f.env; standAt e.pos; holding [v] (truthy v)) := by rfl) : Bt B φ A f m e σ Q E := fun s F S =>
  isTrue_plain (wpAny_mono (h s F S) (fun _ s₁ ⟨_, S₁, h₁⟩ => h₁ _ rfl s₁ F S₁) fun _ _ e => e) he
end

/-! ### operations upon ints, bools -/
section
variable {B : Bd} {φ : Phi} {A : Around} {σ : Sig} {E : Value → Shared → Prop} {Q : Val → Sig → Prop} {i j : Int}
theorem Bn.add (q : Q (.int (i + j)) σ) : Bn B φ A .Add (.int i) (.int j) σ Q E := fun u v hu hv s F S => by
  obtain ⟨t, rfl⟩ := er_int hu; obtain ⟨t', rfl⟩ := er_int hv; exact PyProof.Rows.add_int ⟨σ, S.toks _, q⟩
theorem Bn.sub (q : Q (.int (i - j)) σ) : Bn B φ A .Sub (.int i) (.int j) σ Q E := fun u v hu hv s F S => by
  obtain ⟨t, rfl⟩ := er_int hu; obtain ⟨t', rfl⟩ := er_int hv; exact PyProof.Rows.sub_int ⟨σ, S.toks _, q⟩
theorem Bn.mul (hm : IntMulOk i j) (q : Q (.int (i * j)) σ) : Bn B φ A .Mult (.int i) (.int j) σ Q E := fun u v hu hv s F S => by
  obtain ⟨t, rfl⟩ := er_int hu; obtain ⟨t', rfl⟩ := er_int hv; exact PyProof.Rows.mul_int ⟨σ, S.toks _, q⟩ hm
theorem Bn.mod (hj : j ≠ 0) (q : Q (.int (i.fmod j)) σ) : Bn B φ A .Mod (.int i) (.int j) σ Q E := fun u v hu hv s F S => by
  obtain ⟨t, rfl⟩ := er_int hu; obtain ⟨t', rfl⟩ := er_int hv; exact PyProof.Rows.mod_int hj ⟨σ, S.toks _, q⟩
theorem Bn.fdiv (hj : j ≠ 0) (hp : Builtin.divisionGoesByPylong i j = false) (q : Q (.int (i.fdiv j)) σ) : Bn B φ A .FloorDiv (.int i) (.int j) σ Q E := fun u v hu hv s F S => by
  obtain ⟨t, rfl⟩ := er_int hu; obtain ⟨t', rfl⟩ := er_int hv; exact PyProof.Rows.floordiv_int hj ⟨σ, S.toks _, q⟩ (Or.inl hp)
theorem Bn.pow (hj : 0 ≤ j) (hs : (Builtin.Int.intBits i : Int) * j ≤ 2 ^ 27) (q : Q (.int (i ^ j.toNat)) σ) : Bn B φ A .Pow (.int i) (.int j) σ Q E := fun u v hu hv s F S => by
  obtain ⟨t, rfl⟩ := er_int hu; obtain ⟨t', rfl⟩ := er_int hv; exact PyProof.Rows.pow_int hj hs ⟨σ, S.toks _, q⟩
theorem Un.neg (q : Q (.int (-i)) σ) : Un B φ A .USub (.int i) σ Q E := fun u hu s F S => by
  obtain ⟨t, rfl⟩ := er_int hu; exact PyProof.Rows.neg_int ⟨σ, S.toks _, q⟩
theorem Cm.lt (q : Q (.bool (decide (i < j))) σ) : Cm B φ A .Lt (.int i) (.int j) σ Q E := fun u v hu hv s F S => by
  obtain ⟨t, rfl⟩ := er_int hu; obtain ⟨t', rfl⟩ := er_int hv; exact PyProof.Rows.lt_int ⟨σ, S, q⟩
theorem Cm.le (q : Q (.bool (decide (i ≤ j))) σ) : Cm B φ A .LtE (.int i) (.int j) σ Q E := fun u v hu hv s F S => by
  obtain ⟨t, rfl⟩ := er_int hu; obtain ⟨t', rfl⟩ := er_int hv; exact PyProof.Rows.le_int ⟨σ, S, q⟩
theorem Cm.gt (q : Q (.bool (decide (j < i))) σ) : Cm B φ A .Gt (.int i) (.int j) σ Q E := fun u v hu hv s F S => by
  obtain ⟨t, rfl⟩ := er_int hu; obtain ⟨t', rfl⟩ := er_int hv; exact PyProof.Rows.gt_int ⟨σ, S, q⟩
theorem Cm.ge (q : Q (.bool (decide (j ≤ i))) σ) : Cm B φ A .GtE (.int i) (.int j) σ Q E := fun u v hu hv s F S => by
  obtain ⟨t, rfl⟩ := er_int hu; obtain ⟨t', rfl⟩ := er_int hv; exact PyProof.Rows.ge_int ⟨σ, S, q⟩
theorem Cm.eq (q : Q (.bool (decide (i = j))) σ) : Cm B φ A .Eq (.int i) (.int j) σ Q E := fun u v hu hv s F S => by
  obtain ⟨t, rfl⟩ := er_int hu; obtain ⟨t', rfl⟩ := er_int hv; exact PyProof.Rows.eq_int ⟨σ, S, q⟩
theorem Cm.ne (q : Q (.bool (!decide (i = j))) σ) : Cm B φ A .NotEq (.int i) (.int j) σ Q E := fun u v hu hv s F S => by
  obtain ⟨t, rfl⟩ := er_int hu; obtain ⟨t', rfl⟩ := er_int hv
  refine PyProof.Rows.ne_int ⟨σ, S, ?_⟩
  have e : (i != j) = !decide (i = j) := rfl
  rw [e]; exact q
theorem Cm.isNone {a : Val} (q : Q (.bool (match a with | .none => true | _ => false)) σ) : Cm B φ A .Is a .none σ Q E := fun u v hu hv s F S => by
  have := er_none hv; subst this
  refine PySem.is_none ⟨σ, S, ?_⟩
  subst hu
  cases u <;> exact q
theorem Cm.isNotNone {a : Val} (q : Q (.bool (match a with | .none => false | _ => true)) σ) : Cm B φ A .IsNot a .none σ Q E := fun u v hu hv s F S => by
  have := er_none hv; subst this
  refine PySem.isNot_none ⟨σ, S, ?_⟩
  subst hu
  cases u <;> exact q
theorem Cm.isNotSelf {a : Addr} (q : Q (.bool false) σ) : Cm B φ A .IsNot (.ref a) (.ref a) σ Q E := fun u v hu hv s F S => by
  rw [er_ref hu, er_ref hv]; exact wpAny_isNot_ref_self ⟨σ, S, q⟩
variable {R : Bool → Sig → Prop}
theorem Tr.bool {b : Bool} (q : R b σ) : Tr B φ A (.bool b) σ R E := fun u hu s F S => by rw [er_bool hu]; exact wpAny_truthy_bool ⟨σ, S, q⟩
end

/-! ### statements -/
inductive Sto : LM → Str → Val → LM → Prop
  | head {x : Str} {u : Option Val} {v : Val} {m : LM} : Sto ((x, u) :: m) x v ((x, some v) :: m)
  | tail {x : Str} {v : Val} {p : Str × Option Val} {m m' : LM} : Sto m x v m' → Sto (p :: m) x v (p :: m')
theorem Sto.keys {m m' : LM} {x : Str} {v : Val} (h : Sto m x v m') : m'.map (·.1) = m.map (·.1) := by
  induction h with
  | head => rfl
  | tail _ ih => simp only [List.map_cons, ih]
theorem Sto.mem {m m' : LM} {x : Str} {v : Val} (h : Sto m x v m') : x ∈ m.map (·.1) := by
  induction h with
  | head => exact .head _
  | tail _ ih => exact .tail _ ih
theorem Sto.all {m m' : LM} {x : Str} {v : Val} (h : Sto m x v m') (nd : (m.map (·.1)).Nodup) : ∀ p ∈ m', p = (x, some v) ∨ (p ∈ m ∧ p.1 ≠ x) := by
  induction h with
  | head =>
    intro p hp
    rcases List.mem_cons.mp hp with rfl | hp
    · exact .inl rfl
    · exact .inr ⟨.tail _ hp, fun e => (List.nodup_cons.mp nd).1 (List.mem_map.mpr ⟨p, hp, e⟩)⟩
  | tail h ih =>
    rename_i p₀ m m'
    intro p hp
    have nd' := List.nodup_cons.mp nd
    rcases List.mem_cons.mp hp with rfl | hp
    · exact .inr ⟨.head _, fun e => nd'.1 (by show p.1 ∈ _; rw [e]; exact h.mem)⟩
    · rcases ih nd'.2 p hp with e | ⟨a, b⟩
      · exact .inl e
      · exact .inr ⟨.tail _ a, b⟩
theorem FmOk.sto {w : World} {f : Fm} {m m' : LM} (h : FmOk w f m) (k : m'.map (·.1) = m.map (·.1)) : FmOk w f m' :=
  ⟨h.kind, h.glob, h.bi, by rw [k]; exact h.loc, by rw [k]; exact h.nodup, h.cell, h.gl, by rw [k]; exact h.dbg⟩

section
variable {B : Bd} {φ : Phi} {A : Around} {f : Fm} {m : LM} {σ : Sig} {E : Value → Shared → Prop} {Q : Fl → LM → Sig → Prop}
theorem X.stoLoc {x : Str} {v : Value} {m' : LM} {Q : Unit → LM → Sig → Prop} (h : Sto m x (er v) m') (q : Q () m' σ) : X B φ A f m (storeName f.env x v) σ Q E := fun s F S => by
  obtain ⟨hl, ok, mm, hn, hm⟩ := (S.ph _ (.head _)).1
  refine wpAny_storeName_local (ok.loc _ h.mem) hn (fun h' hn' hs' => ?_) (by rw [ok.kind]; rfl)
  refine ⟨m', σ, S.head (fun b o hb e => (hs'.2 b hb).trans e) ⟨rfl, ok.sto h.keys, _, hn', fun p hp => ?_⟩, q⟩
  rcases h.all ok.nodup p hp with rfl | ⟨hp, ne⟩
  · simp
  · simp only [if_neg ne]; exact hm p hp
theorem X.stoCel {x : Str} {v : Value} {c : Addr} {o : Option Val} {Q : Unit → LM → Sig → Prop} (h : (x, c) ∈ f.cells) (hc : σ c = some (.cel o)) (q : Q () m (σ.upd c (.cel (some (er v))))) : X B φ A f m (storeName f.env x v) σ Q E := fun s F S => by
  obtain ⟨hl, ok, mm, hn, hm⟩ := (S.ph _ (.head _)).1
  obtain ⟨u, hu, e⟩ := S.look hc
  have k := ok.cell _ h
  rcases k.1 with k1 | ⟨k1, k2⟩
  · exact wpAny_storeName_cell ok.kind k1 k.2 hu fun h' hc' hs' => ⟨m, _, S.upd (c' := .cel (some (er v))) hc (fun b o hb e => (hs'.2 b hb).trans e) ⟨_, hc', rfl⟩, q⟩
  · unfold storeName
    simp only [k1, ok.kind]
    exact wpAny_bind (wpAny_cellOf k.2 (wpAny_cellSet hu fun h' hc' hs' => ⟨m, _, S.upd (c' := .cel (some (er v))) hc (fun b o hb e => (hs'.2 b hb).trans e) ⟨_, hc', rfl⟩, q⟩))

noncomputable def Seq (B : Bd) (φ : Phi) (A : Around) (f : Fm) (rest : List Stmt) (Q : Fl → LM → Sig → Prop) (E : Value → Shared → Prop) : Fl → LM → Sig → Prop
  | .next, m, σ => Es B φ A f m rest σ Q E
  | r, m, σ => Q r m σ
theorem Seq.next {rest : List Stmt} (h : Es B φ A f m rest σ Q E) : Seq B φ A f rest Q E .next m σ := h
theorem Seq.brk {rest : List Stmt} (h : Q .brk m σ) : Seq B φ A f rest Q E .brk m σ := h
theorem Es.nil (h : Q .next m σ) : Es B φ A f m [] σ Q E := fun s F S => wpAny_execs_nil ⟨m, σ, S, h⟩
theorem Es.cons {st : Stmt} {rest : List Stmt} (h : Ex B φ A f m st σ (Seq B φ A f rest Q E) E) : Es B φ A f m (st :: rest) σ Q E := fun s F S =>
  wpAny_execs_cons (wpAny_mono (h s F S) (fun r s₁ ⟨m₁, σ₁, S₁, h₁⟩ => by
    cases r with
    | next => exact h₁ s₁ F.turn S₁
    | brk => exact ⟨m₁, σ₁, S₁, h₁⟩
    | cont => exact ⟨m₁, σ₁, S₁, h₁⟩
    | ret v => exact ⟨m₁, σ₁, S₁, h₁⟩) fun _ _ e => e)
theorem Ex.brk {pos : Pos} (h : Q .brk m σ) : Ex B φ A f m (.Break pos) σ Q E := fun s F S => wpAny_Break ⟨m, σ, S, h⟩
theorem Ex.ret {e : Expr} {pos : Pos} (h : Ev B φ A f m e σ (fun v σ' => Q (.ret v) m σ') E) : Ex B φ A f m (.Return (some e) pos) σ Q E := fun s F S =>
  wpAny_Return_some (wpAny_mono (h s F S) (fun _ _ ⟨σ', S', q⟩ => ⟨m, σ', S', q⟩) fun _ _ e => e)
theorem Ex.ifs {t : Expr} {b₁ b₂ : List Stmt} {pos : Pos} (h : Bt B φ A f m t σ (fun b σ₁ => (b = true → Es B φ A f m b₁ σ₁ Q E) ∧ (b = false → Es B φ A f m b₂ σ₁ Q E)) E) :
    Ex B φ A f m (.If t b₁ b₂ pos) σ Q E := fun s F S =>
  wpAny_If (wpAny_mono (h s F S) (fun b s₁ ⟨_, S₁, h₁⟩ => by
    cases b with
    | true => exact h₁.1 rfl s₁ F S₁
    | false => exact h₁.2 rfl s₁ F S₁) fun _ _ e => e)
/-- x = e, where no comprehension trades its stores -/
theorem Ex.asg {x : Str} {xp pos : Pos} {e : Expr} (h : Ev B φ A f m e σ (fun v σ₁ => ∃ m', Sto m x v m' ∧ Q .next m' σ₁) E)
    (hs : swapsWith e (some (.Name x xp)) pos.line f.env = pure false := by rfl) : Ex B φ A f m (.Assign [.Name x xp] e pos) σ Q E := fun s F S =>
  wpAny_Assign_Name (wpAny_mono (h s F S) (fun v s₁ ⟨σ₁, S₁, m', h₁, q⟩ => wpAny_mono (X.stoLoc (Q := fun _ => Q .next) (E := E) h₁ q s₁ F S₁) (fun _ _ z => z) fun _ _ e => e) fun _ _ e => e) hs
/-- x = e, x a cell -/
theorem Ex.asgC {x : Str} {xp pos : Pos} {e : Expr} (h : Ev B φ A f m e σ (fun v σ₁ => ∃ c o, (x, c) ∈ f.cells ∧ σ₁ c = some (.cel o) ∧ Q .next m (σ₁.upd c (.cel (some v)))) E)
    (hs : swapsWith e (some (.Name x xp)) pos.line f.env = pure false := by rfl) : Ex B φ A f m (.Assign [.Name x xp] e pos) σ Q E := fun s F S =>
  wpAny_Assign_Name (wpAny_mono (h s F S) (fun v s₁ ⟨σ₁, S₁, c, o, h₁, h₂, q⟩ => wpAny_mono (X.stoCel (Q := fun _ => Q .next) (E := E) h₁ h₂ q s₁ F S₁) (fun _ _ z => z) fun _ _ e => e) fun _ _ e => e) hs
/-- an expression for its own sake -/
theorem Ex.expr {e : Expr} {pos : Pos} (h : Ev B φ A f m e σ (fun _ σ₁ => Q .next m σ₁) E)
    (hs : swapsWith e none pos.line f.env = pure false := by rfl) : Ex B φ A f m (.Expr e pos) σ Q E := fun s F S => by
  obtain ⟨_, ok, _⟩ := (S.ph _ (.head _)).1
  exact wpAny_Expr_any (wpAny_mono (h s F S) (fun _ _ ⟨σ₁, S₁, q⟩ => ⟨m, σ₁, S₁, q⟩) fun _ _ e => e) (by unfold interactive; rw [ok.kind]; rfl) hs
/-- x op= e -/
theorem Ex.aug {x : Str} {xp pos : Pos} {op : Operator} {e : Expr} {u : Val} (hx : (x, some u) ∈ m)
    (h : Ev B φ A f m e σ (fun v σ₁ => ∀ a b, er a = u → er b = v → T B ((f.env.locals, .fr f m) :: φ) A (inplaceOp op a b) σ₁ (fun r σ₂ => ∃ m', Sto m x (er r) m' ∧ Q .next m' σ₂) E) E) :
    Ex B φ A f m (.AugAssign (.Name x xp) op e pos) σ Q E := fun s F S => by
  obtain ⟨_, ok, mm, hn, hm⟩ := (S.ph _ (.head _)).1
  have hk := List.mem_map_of_mem (f := (·.1)) hx
  have eu := hm _ hx
  cases q' : mm x with
  | none => simp only [q', Option.map_none] at eu; cases eu
  | some a =>
    simp only [q', Option.map_some, Option.some.injEq] at eu
    exact wpAny_AugAssign_Name (wpAny_loadName_local ok.kind (ok.loc _ hk) hn q' (wpAny_mono (h s F S) (fun b s₁ ⟨σ₁, S₁, h₁⟩ =>
      wpAny_mono (h₁ a b eu rfl s₁ F S₁) (fun r s₂ ⟨σ₂, S₂, m', hst, q⟩ => wpAny_mono (X.stoLoc (Q := fun _ => Q .next) (E := E) hst q s₂ F S₂) (fun _ _ z => z) fun _ _ e => e) fun _ _ e => e) fun _ _ e => e))
end
end Mine
end
section
open PySem PySem.W PyProof.Rows
set_option maxRecDepth 100000
set_option Elab.async false
set_option linter.unusedVariables false
namespace Mine
section
variable {B : Bd} {φ : Phi} {A : Around} {f : Fm} {m : LM} {σ : Sig} {E : Value → Shared → Prop}

/-! ### subscripts -/
noncomputable def Su (B : Bd) (φ : Phi) (A : Around) (value slice : Expr) (a i : Val) (σ : Sig) (Q : Val → Sig → Prop) (E : Value → Shared → Prop) : Prop :=
  ∀ u v, er u = a → er v = i → T B φ A (subscriptTail value slice u v) σ (fun r => Q (er r)) E
/-- getItem -/
noncomputable def Gi (B : Bd) (φ : Phi) (A : Around) (a i : Val) (σ : Sig) (Q : Val → Sig → Prop) (E : Value → Shared → Prop) : Prop :=
  ∀ u v, er u = a → er v = i → T B φ A (getItem u v) σ (fun r => Q (er r)) E
noncomputable def Si (B : Bd) (φ : Phi) (A : Around) (a i x : Val) (σ : Sig) (Q : Sig → Prop) (E : Value → Shared → Prop) : Prop :=
  ∀ u v y, er u = a → er v = i → er y = x → T B φ A (setItem u v y) σ (fun _ => Q) E
theorem Ev.sub {value slice : Expr} {pos : Pos} {Q : Val → Sig → Prop}
    (h : Ev B φ A f m value σ (fun a σ₁ => Ev B φ A f m slice σ₁ (fun i σ₂ => Su B ((f.env.locals, .fr f m) :: φ) A value slice a i σ₂ Q E) E) E) :
    Ev B φ A f m (.Subscript value slice pos) σ Q E := fun s F S =>
  Subscript_ (wpAny_mono (h s F S) (fun _ s₁ ⟨_, S₁, h₁⟩ => wpAny_mono (h₁ s₁ F S₁) (fun _ s₂ ⟨_, S₂, h₂⟩ => h₂ _ _ rfl rfl s₂ F S₂) fun _ _ e => e) fun _ _ e => e)
theorem Gi.list {l : Addr} {vs : List Val} {i : Int} {v : Val} {Q : Val → Sig → Prop} (hl : σ l = some (.list vs)) (h0 : 0 ≤ i) (hi : i < 2 ^ 63) (hv : vs[i.toNat]? = some v) (q : Q v σ) :
    Gi B φ A (.ref l) (.int i) σ Q E := fun u x hu hx s F S => by
  rw [er_ref hu]; obtain ⟨t, rfl⟩ := er_int hx
  obtain ⟨items, n, ho, e⟩ := S.look hl
  subst e
  rw [List.getElem?_map] at hv
  cases q' : items.toList[i.toNat]? with
  | none => rw [q'] at hv; cases hv
  | some y =>
    rw [q'] at hv; cases hv
    exact wpAny_getItem_list ⟨_, ho, rfl, n, rfl⟩ h0 hi (by rw [← Array.getElem?_toList]; exact q') ⟨σ, S, q⟩
theorem Gi.last {l : Addr} {vs : List Val} {v : Val} {Q : Val → Sig → Prop} (hl : σ l = some (.list vs)) (hv : vs.getLast? = some v) (q : Q v σ) :
    Gi B φ A (.ref l) (.int (-1)) σ Q E := fun u x hu hx s F S => by
  rw [er_ref hu]; obtain ⟨t, rfl⟩ := er_int hx
  obtain ⟨items, n, ho, e⟩ := S.look hl
  subst e
  rw [List.getLast?_map] at hv
  cases q' : items.toList.getLast? with
  | none => rw [q'] at hv; cases hv
  | some y =>
    rw [q'] at hv; cases hv
    rw [List.getLast?_eq_getElem?] at q'
    have hne : 0 < items.size := by
      rw [Array.getElem?_toList] at q'
      have := (Array.getElem?_eq_some_iff.mp q').1
      omega
    refine wpAny_getItem_list_neg ⟨_, ho, rfl, n, rfl⟩ (by decide) (by omega) (by decide) ?_ ⟨σ, S, q⟩
    rw [← Array.getElem?_toList, ← q']
    congr 1
    simp only [Array.length_toList]
    omega
theorem St.tyList {B : Bd} {φ : Phi} {σ : Sig} {s : Shared} (S : St B φ σ s) {l : Addr} {vs : List Val} (hl : σ l = some (.list vs)) : s.TypeIs (.ref l) "list" := by
  obtain ⟨items, n, ho, _⟩ := S.look hl; exact ⟨_, ho, rfl⟩
theorem Su.list {value slice : Expr} {l : Addr} {vs : List Val} {i : Int} {v : Val} {Q : Val → Sig → Prop} (hl : σ l = some (.list vs)) (h0 : 0 ≤ i) (hi : i < 2 ^ 63) (hv : vs[i.toNat]? = some v) (q : Q v σ)
    (hs : ∀ o i, subscripted slice false o i = operate [o, i] (getItem o i) := by intros; rfl) :
    Su B φ A value slice (.ref l) (.int i) σ Q E := fun u x hu hx s F S => by
  rw [er_ref hu]
  exact tail_any (S.tyList hl) slot_list_getitem.lookup (Gi.list hl h0 hi hv q (.ref l) x rfl hx s F S) (hs _ _)
theorem Su.last {value slice : Expr} {l : Addr} {vs : List Val} {v : Val} {Q : Val → Sig → Prop} (hl : σ l = some (.list vs)) (hv : vs.getLast? = some v) (q : Q v σ)
    (hs : ∀ o i, subscripted slice false o i = operate [o, i] (getItem o i) := by intros; rfl) :
    Su B φ A value slice (.ref l) (.int (-1)) σ Q E := fun u x hu hx s F S => by
  rw [er_ref hu]
  exact tail_any (S.tyList hl) slot_list_getitem.lookup (Gi.last hl hv q (.ref l) x rfl hx s F S) (hs _ _)
theorem setList_map {items : Array Value} {k : Nat} {v : Value} : (items.setIfInBounds k v).toList.map er = (items.toList.map er).set k (er v) := by
  rw [Array.toList_setIfInBounds, List.map_set]
theorem Si.list {l : Addr} {vs : List Val} {i : Int} {v : Val} {Q : Sig → Prop} (hl : σ l = some (.list vs)) (h0 : 0 ≤ i) (hi : i < 2 ^ 63) (hn : i < vs.length) (q : Q (σ.upd l (.list (vs.set i.toNat v)))) :
    Si B φ A (.ref l) (.int i) v σ Q E := fun u x y hu hx hy s F S => by
  rw [er_ref hu]; obtain ⟨t, rfl⟩ := er_int hx
  obtain ⟨items, n, ho, e⟩ := S.look hl
  subst e hy
  have hsz : i < items.size := by simpa using hn
  refine ki_setAt (n := n) ho h0 hi hsz ⟨_, S.upd hl (fun b o hb e => (Heap.get?_update_ne _ _ _ _ hb).trans e) (c' := .list (((items.toList.map er)).set i.toNat (er y))) ?_, q⟩
  have := PySem.IsL.update ho (·.setIfInBounds i.toNat y)
  exact ⟨_, _, this, setList_map⟩

/-! ### displays -/
/-- a row of expressions, one after the other -/
noncomputable def El (B : Bd) (φ : Phi) (A : Around) (f : Fm) (m : LM) (pos : Pos) (es : List Expr) (σ : Sig) (Q : List Val → Sig → Prop) (E : Value → Shared → Prop) : Prop :=
  T B ((f.env.locals, .fr f m) :: φ) A (spliced (backTo pos (starEach es f.env))) σ (fun vs => Q (vs.map er)) E
theorem El.nil {pos : Pos} {Q : List Val → Sig → Prop} (q : Q [] σ) : El B φ A f m pos [] σ Q E := fun s F S => Calls.spliced_nil ⟨σ, S, q⟩
theorem El.cons {pos : Pos} {e : Expr} {es : List Expr} {Q : List Val → Sig → Prop} (h : Ev B φ A f m e σ (fun v σ₁ => El B φ A f m pos es σ₁ (fun vs σ₂ => Q (v :: vs) σ₂) E) E)
    (he : starEach (e :: es) f.env = (false, eval e f.env) :: starEach es f.env := by rfl) : El B φ A f m pos (e :: es) σ Q E := fun s F S => by
  rw [he]
  exact Calls.spliced_cons (wpAny_mono (h s F S) (fun _ s₁ ⟨_, S₁, h₁⟩ => h₁ s₁ F S₁) fun _ _ e => e)
theorem lenOk_of {vs : List Value} (h : vs.length ≤ 1000) : vs.length ≤ sizeLine := by rw [sizeLine_eq]; omega
theorem Ev.list {es : List Expr} {pos : Pos} {Q : Val → Sig → Prop} (h : El B φ A f m pos es σ (fun vs σ₁ => vs.length ≤ 1000 ∧ ∀ a, σ₁ a = Option.none → Q (.ref a) (σ₁.upd a (.list vs))) E) :
    Ev B φ A f m (.List es pos) σ Q E := fun s F S =>
  wpAny_List_spliced (wpAny_mono (h s F S) (fun vs s₁ ⟨σ₁, S₁, hl, q⟩ => ⟨lenOk_of (by simpa using hl), _, S₁.alloc (c := .list (vs.map er)) (fun b o e => Heap.get?_push_of_some _ e) ⟨_, _, Heap.get?_push_size _ rfl, by simp⟩, q _ S₁.fresh.1⟩) fun _ _ e => e)
theorem Ev.tup {es : List Expr} {k : Nat} {pos : Pos} {Q : Val → Sig → Prop} (h : El B φ A f m pos es σ (fun vs σ₁ => vs.length ≤ 1000 ∧ ∀ a, σ₁ a = Option.none → Q (.ref a) (σ₁.upd a (.tup vs))) E) :
    Ev B φ A f m (.Tuple es k pos) σ Q E := fun s F S =>
  wpAny_Tuple_spliced (wpAny_mono (h s F S) (fun vs s₁ ⟨σ₁, S₁, hl, q⟩ => ⟨lenOk_of (by simpa using hl), _, S₁.alloc (c := .tup (vs.map er)) (fun b o e => Heap.get?_push_of_some _ e) ⟨_, _, Heap.get?_push_size _ rfl, by simp⟩, q _ S₁.fresh.1⟩) fun _ _ e => e)

/-! ### stores into places -/
variable {Q : Fl → LM → Sig → Prop}
theorem Ex.asgSub {o i value : Expr} {sp pos : Pos} (h : Ev B φ A f m value σ (fun v σ₁ => Ev B φ A f m o σ₁ (fun a σ₂ => Ev B φ A f m i σ₂ (fun k σ₃ => Si B ((f.env.locals, .fr f m) :: φ) A a k v σ₃ (fun σ₄ => Q .next m σ₄) E) E) E) E)
    (hs : swapsWith value (some (.Subscript o i sp)) pos.line f.env = pure false := by rfl) : Ex B φ A f m (.Assign [.Subscript o i sp] value pos) σ Q E := fun s F S =>
  wpAny_Assign_Subscript (wpAny_mono (h s F S) (fun _ s₁ ⟨_, S₁, h₁⟩ => wpAny_mono (h₁ s₁ F S₁) (fun _ s₂ ⟨_, S₂, h₂⟩ => wpAny_mono (h₂ s₂ F S₂) (fun _ s₃ ⟨_, S₃, h₃⟩ =>
    wpAny_mono (h₃ _ _ _ rfl rfl rfl s₃ F S₃) (fun _ _ ⟨σ₄, S₄, q⟩ => ⟨m, σ₄, S₄, q⟩) fun _ _ e => e) fun _ _ e => e) fun _ _ e => e) fun _ _ e => e) hs
theorem Ex.augSub {o i value : Expr} {sp pos : Pos} {op : Operator}
    (h : Ev B φ A f m o σ (fun a σ₁ => Ev B φ A f m i σ₁ (fun k σ₂ => Gi B ((f.env.locals, .fr f m) :: φ) A a k σ₂ (fun u σ₃ => Ev B φ A f m value σ₃ (fun v σ₄ => ∀ x y, er x = u → er y = v →
      T B ((f.env.locals, .fr f m) :: φ) A (inplaceOp op x y) σ₄ (fun r σ₅ => Si B ((f.env.locals, .fr f m) :: φ) A a k (er r) σ₅ (fun σ₆ => Q .next m σ₆) E) E) E) E) E) E)
    (hi : ∀ ov iv new, augStore i ov iv new = (do holding [new, ov, iv] (setItem ov iv new); release [new, ov, iv] []; pure .next) := by intros; rfl) : Ex B φ A f m (.AugAssign (.Subscript o i sp) op value pos) σ Q E := fun s F S =>
  wpAny_AugAssign_SubscriptAny (wpAny_mono (h s F S) (fun _ s₁ ⟨_, S₁, h₁⟩ => wpAny_mono (h₁ s₁ F S₁) (fun _ s₂ ⟨_, S₂, h₂⟩ => wpAny_mono (h₂ _ _ rfl rfl s₂ F S₂) (fun _ s₃ ⟨_, S₃, h₃⟩ =>
    wpAny_mono (h₃ s₃ F S₃) (fun _ s₄ ⟨_, S₄, h₄⟩ => wpAny_mono (h₄ _ _ rfl rfl s₄ F S₄) (fun _ s₅ ⟨_, S₅, h₅⟩ => wpAny_mono (h₅ _ _ _ rfl rfl rfl s₅ F S₅) (fun _ _ ⟨σ₆, S₆, q⟩ => ⟨m, σ₆, S₆, q⟩) fun _ _ e => e)
      fun _ _ e => e) fun _ _ e => e) fun _ _ e => e) fun _ _ e => e) fun _ _ e => e) hi
end

/-! ### calls -/
section
variable {B : Bd} {φ : Phi} {A : Around} {f : Fm} {m : LM} {σ : Sig} {E : Value → Shared → Prop}
noncomputable def Cl (B : Bd) (φ : Phi) (A : Around) (g : Value) (vs : List Val) (kw : List (Str × Val)) (σ : Sig) (Q : Val → Sig → Prop) (E : Value → Shared → Prop) : Prop :=
  ∀ us ks, us.map er = vs → ks.map (fun p : Str × Value => (p.1, er p.2)) = kw → T B φ A (call g us ks) σ (fun v => Q (er v)) E
/-- the callee is kept by a frame or by the machine -/
noncomputable def Kp (B : Bd) (φ : Phi) (g : Value) (σ : Sig) : Prop :=
  ∀ s, St B φ σ s → ∃ k, (k = Keeper.frame ∨ k = Keeper.machine ∨ k = Keeper.boundFrame) ∧ Looks (M0 B.w) s.heap (keeperOf g) k
theorem Kp.bi {n : String} : Kp B φ (.builtin n) σ := fun _ _ => ⟨.machine, .inr (.inl rfl), Looks.of_pure rfl⟩
theorem Kp.ty {n : String} : Kp B φ (.type n) σ := fun _ _ => ⟨.machine, .inr (.inl rfl), Looks.of_pure rfl⟩
theorem Kp.kin {g : Value} (h : keepIn (K0 B.w) g = true) : Kp B φ g σ := fun s S => keeps_K h _ S.kin
theorem Kp.fn {a : Addr} {o : Obj} {fd : FuncData} (h : σ a = some (.obj o)) (hd : o.data = .func fd) : Kp B φ (.ref a) σ := fun s S => by
  refine ⟨.frame, .inl rfl, ?_⟩
  have e : s.heap.get? a = some o := S.look h
  refine (Looks.ld (part := none) e).andThen ?_
  rw [hd]; exact .now
/-- keywords, in the order of the text -/
noncomputable def Ek (B : Bd) (φ : Phi) (A : Around) (f : Fm) (m : LM) (pos : Pos) (ks : List Keyword) (σ : Sig) (Q : List (Str × Val) → Sig → Prop) (E : Value → Shared → Prop) : Prop :=
  ((backToKw pos (keywordEach ks f.env)).all (·.1.isSome) = true) ∧
  T B ((f.env.locals, .fr f m) :: φ) A (evalAll ((backToKw pos (keywordEach ks f.env)).map (·.2))) σ (fun vs => Q ((((backToKw pos (keywordEach ks f.env)).filterMap (·.1)).zip vs).map fun p => (p.1, er p.2))) E
theorem Ek.nil {pos : Pos} {Q : List (Str × Val) → Sig → Prop} (q : Q [] σ) : Ek B φ A f m pos [] σ Q E := ⟨rfl, fun s F S => wpAny_evalAll_nil ⟨σ, S, q⟩⟩
theorem Ek.cons {pos kp : Pos} {n : Str} {e : Expr} {ks : List Keyword} {Q : List (Str × Val) → Sig → Prop} (h : Ev B φ A f m e σ (fun v σ₁ => Ek B φ A f m pos ks σ₁ (fun vs σ₂ => Q ((n, v) :: vs) σ₂) E) E)
    (ha : ((backToKw pos (keywordEach ks f.env)).all (·.1.isSome)) = true := by rfl) : Ek B φ A f m pos (⟨some n, e, kp⟩ :: ks) σ Q E := by
  refine ⟨by show (true && (backToKw pos (keywordEach ks f.env)).all (·.1.isSome)) = true; rw [ha]; rfl, fun s F S => ?_⟩
  show wpAny (M0 B.w) A (evalAll ((do let v ← eval e f.env; standAt pos; pure v) :: (backToKw pos (keywordEach ks f.env)).map (·.2))) _ E s
  refine wpAny_evalAll_cons (wpAny_bind (wpAny_mono (h s F S) (fun v s₁ ⟨σ₁, S₁, h₁⟩ => wpAny_bind (wpAny_standAt (wpAny_pure ?_))) fun _ _ e => e))
  exact wpAny_mono (h₁.2 s₁ F S₁) (fun vs s₂ ⟨σ₂, S₂, q⟩ => ⟨σ₂, S₂, q⟩) fun _ _ e => e
theorem evalArgs_gen {M : Model} {s : Shared} {E : Value → Shared → Prop} {g : Value} {args : List (Bool × Sem Value)} {kws : List (Option Str × Sem Value)} {Q : Args → Shared → Prop} (hp : args.any (·.1) = false) (hk : kws.all (·.1.isSome) = true)
    (h : wpAny M A (spliced args) (fun vs s₁ => wpAny M A (evalAll (kws.map (·.2))) (fun ks s₂ => Q ⟨vs, (kws.filterMap (·.1)).zip ks⟩ s₂) E s₁) E s) : wpAny M A (evalArgs g true args kws) Q E s := by
  cases args with
  | nil =>
    refine evalArgs_kw_nil hk ?_
    have h' : wpAny M A (pure [] : Sem (List Value)) (fun vs s₁ => wpAny M A (evalAll (kws.map (·.2))) (fun ks s₂ => Q ⟨vs, (kws.filterMap (·.1)).zip ks⟩ s₂) E s₁) E s := h
    intro Γ p hΓ
    exact h' Γ p hΓ Γ p hΓ
  | cons x r =>
    obtain ⟨b, x⟩ := x
    simp only [List.any_cons, Bool.or_eq_false_iff] at hp
    obtain ⟨rfl, _⟩ := hp
    exact evalArgs_kw hk h
theorem starFree {es : List Expr} {env : Env} {pos : Pos} (h : (starEach es env).any (·.1) = false) : (backTo pos (starEach es env)).any (·.1) = false := by
  unfold backTo
  rw [List.any_map]
  exact h
theorem T.callWith {pos : Pos} {g : Value} {first : List Value} {es : List Expr} {ks : List Keyword} {Q : Val → Sig → Prop}
    (h : El B φ A f m pos es σ (fun vs σ₁ => Ek B φ A f m pos ks σ₁ (fun kw σ₂ => Kp B ((f.env.locals, .fr f m) :: φ) g σ₂ ∧ Cl B ((f.env.locals, .fr f m) :: φ) A g (first.map er ++ vs) kw σ₂ Q E) E) E)
    (hp : (starEach es f.env).any (·.1) = false := by rfl) (hks : (backToKw pos (keywordEach ks f.env)).all (·.1.isSome) = true := by rfl) (hks' : (backToKw pos (keywordEach ks f.env)).any (·.1.isNone) = false := by rfl) :
    T B ((f.env.locals, .fr f m) :: φ) A (callWith pos g first (backTo pos (starEach es f.env)) (backToKw pos (keywordEach ks f.env))) σ (fun v => Q (er v)) E := fun s F S =>
  callWith_of (P := fun hp => ∃ k, (k = Keeper.frame ∨ k = Keeper.machine ∨ k = Keeper.boundFrame) ∧ Looks (M0 B.w) hp (keeperOf g) k) (by rw [starFree hp, hks']; rfl) (fun _ x => x)
    (evalArgs_gen (starFree hp) hks (wpAny_mono (h s F S) (fun vs s₁ ⟨σ₁, S₁, h₁⟩ => wpAny_mono (h₁.2 s₁ F S₁) (fun kv s₂ ⟨σ₂, S₂, hk, hc⟩ => ⟨hk s₂ S₂, hc _ _ (by rw [List.map_append]) rfl s₂ F S₂⟩) fun _ _ e => e) fun _ _ e => e))
/-- f(..), f a global name -/
theorem Ev.callG {x : Str} {xp pos : Pos} {g : Value} {es : List Expr} {ks : List Keyword} {Q : Val → Sig → Prop} (hx : (x, g) ∈ f.globs)
    (h : El B φ A f m pos es σ (fun vs σ₁ => Ek B φ A f m pos ks σ₁ (fun kw σ₂ => Kp B ((f.env.locals, .fr f m) :: φ) g σ₂ ∧ Cl B ((f.env.locals, .fr f m) :: φ) A g vs kw σ₂ Q E) E) E)
    (hg : ∀ a b, er a = er g → g = b ∨ a = g := by intro a b h; first | exact Or.inr (er_ref h) | exact Or.inr (er_type h) | exact Or.inr (er_bi h))
    (hp : (starEach es f.env).any (·.1) = false := by rfl) (hks : (backToKw pos (keywordEach ks f.env)).all (·.1.isSome) = true := by rfl) (hks' : (backToKw pos (keywordEach ks f.env)).any (·.1.isNone) = false := by rfl) :
    Ev B φ A f m (.Call (.Name x xp) es ks pos) σ Q E := fun s F S => by
  refine wpAny_Call_ofName ?_
  refine wpAny_mono (Ev.glob (B := B) (φ := φ) (A := A) (f := f) (m := m) (σ := σ) (E := E) (pos := xp) (Q := fun v σ' => v = er g ∧ σ' = σ) hx ⟨rfl, rfl⟩ s F S) (fun v s₁ ⟨σ₁, S₁, e, e'⟩ => ?_) fun _ _ e => e
  subst e'
  have ev : v = g := by
    cases hg v .notImplemented e with
    | inr h => exact h
    | inl h => subst h; cases v <;> first | rfl | (simp [er] at e)
  subst ev
  exact T.callWith (first := []) h hp hks hks' s₁ F S₁
/-- f(..), f a local name that holds a function -/
theorem Ev.callL {x : Str} {xp pos : Pos} {g : Addr} {es : List Expr} {ks : List Keyword} {Q : Val → Sig → Prop} (hx : (x, some (.ref g)) ∈ m)
    (h : El B φ A f m pos es σ (fun vs σ₁ => Ek B φ A f m pos ks σ₁ (fun kw σ₂ => Kp B ((f.env.locals, .fr f m) :: φ) (.ref g) σ₂ ∧ Cl B ((f.env.locals, .fr f m) :: φ) A (.ref g) vs kw σ₂ Q E) E) E)
    (hp : (starEach es f.env).any (·.1) = false := by rfl) (hks : (backToKw pos (keywordEach ks f.env)).all (·.1.isSome) = true := by rfl) (hks' : (backToKw pos (keywordEach ks f.env)).any (·.1.isNone) = false := by rfl) :
    Ev B φ A f m (.Call (.Name x xp) es ks pos) σ Q E := fun s F S => by
  refine wpAny_Call_ofName ?_
  refine wpAny_mono (Ev.loc (B := B) (φ := φ) (A := A) (f := f) (m := m) (σ := σ) (E := E) (pos := xp) (Q := fun v σ' => v = .ref g ∧ σ' = σ) hx ⟨rfl, rfl⟩ s F S) (fun v s₁ ⟨σ₁, S₁, e, e'⟩ => ?_) fun _ _ e => e
  subst e'
  rw [er_ref e]
  exact T.callWith (first := []) h hp hks hks' s₁ F S₁
end
end Mine
end
section
open PySem PySem.W PyProof.Rows
set_option maxRecDepth 100000
set_option Elab.async false
set_option linter.unusedVariables false
namespace Mine
/-! ### frames -/
noncomputable def fmChk (sc : Scope) (ls cs gs : List Str) : Bool :=
  sc.kind == .function && ls.all (fun x => sc.names.lookup x == some .local && !(x == ("__debug__" : Str))) && decide ls.Nodup &&
  cs.all (fun x => (sc.names.lookup x == some .cell || (sc.names.lookup x == some .free && !(x == ("__classdict__" : Str)))) && !(x == ("__debug__" : Str))) &&
  gs.all (fun x => sc.names.lookup x == some .globalImplicit && !(x == ("__debug__" : Str)))
theorem FmOk.of {w : World} {f : Fm} {m : LM} (h : fmChk f.env.scope (m.map (·.1)) (f.cells.map (·.1)) (f.globs.map (·.1)) = true) (hg : f.env.globals = mainGlobals) (hb : f.env.builtins = builtinsNs)
    (hc : ∀ p ∈ f.cells, f.env.cells.lookup p.1 = some p.2) (hv : ∀ p ∈ f.globs, GVal w p.1 p.2) : FmOk w f m := by
  unfold fmChk at h
  simp only [Bool.and_eq_true, List.all_eq_true, decide_eq_true_eq, Bool.or_eq_true, beq_iff_eq, Bool.not_eq_true'] at h
  obtain ⟨⟨⟨⟨h1, h2⟩, h3⟩, h4⟩, h5⟩ := h
  exact ⟨h1, hg, hb, fun x hx => (h2 x hx).1, h3, fun p hp => ⟨(h4 _ (List.mem_map_of_mem hp)).1, hc p hp⟩, fun p hp => ⟨(h5 _ (List.mem_map_of_mem hp)).1, hv p hp⟩,
    fun x hx => (h2 x hx).2, fun p hp => (h4 _ (List.mem_map_of_mem hp)).2, fun p hp => (h5 _ (List.mem_map_of_mem hp)).2⟩
/-- the locals at a call's start -/
noncomputable def lmOf (ps : List Str) (vs : List Val) (rest : List Str) : LM := (ps.zip vs).map (fun p => (p.1, some p.2)) ++ rest.map fun x => (x, Option.none)

theorem lookup_zip_rev {ps : List Str} {us : List Value} (nd : ps.Nodup) (p : Str × Value) (hp : p ∈ ps.zip us) : (ps.zip us).reverse.lookup p.1 = some p.2 := by
  have nd' : ((ps.zip us).map (·.1)).Nodup := by
    have hs : List.Sublist ((ps.zip us).map (·.1)) ps := by
      have : (ps.zip us).map (·.1) = ps.take us.length := by
        clear nd hp
        induction ps generalizing us with
        | nil => simp
        | cons a r ih => cases us <;> simp [ih]
      rw [this]; exact List.take_sublist _ _
    exact hs.nodup nd
  generalize ps.zip us = l at hp nd'
  have key : ∀ (l : List (Str × Value)), (l.map (·.1)).Nodup → ∀ p ∈ l, l.lookup p.1 = some p.2 := by
    intro l
    induction l with
    | nil => intro _ p hp; cases hp
    | cons a r ih =>
      intro nd p hp
      rw [List.map_cons, List.nodup_cons] at nd
      rw [List.lookup_cons]
      rcases List.mem_cons.mp hp with rfl | hp
      · simp
      · have : (p.1 == a.1) = false := by
          refine beq_eq_false_iff_ne.mpr fun e => nd.1 ?_
          rw [← e]; exact List.mem_map_of_mem hp
        rw [this]; exact ih nd.2 p hp
  exact key l.reverse (by rw [List.map_reverse]; exact List.pairwise_reverse.mpr (nd'.imp fun h => Ne.symm h)) p (List.mem_reverse.mpr hp)
theorem lookup_none_of {l : List (Str × Value)} {x : Str} (h : x ∉ l.map (·.1)) : l.lookup x = none := by
  induction l with
  | nil => rfl
  | cons a r ih =>
    rw [List.map_cons, List.mem_cons, not_or] at h
    rw [List.lookup_cons]
    have : (x == a.1) = false := beq_eq_false_iff_ne.mpr h.1
    rw [this]; exact ih h.2
theorem zip_fst_mem {ps : List Str} {us : List Value} {x : Str} (h : x ∈ (ps.zip us).map (·.1)) : x ∈ ps := by
  obtain ⟨p, hp, rfl⟩ := List.mem_map.mp h
  exact (List.of_mem_zip hp).1
theorem lmOf_reads {ps rest : List Str} {us : List Value} (nd : (ps ++ rest).Nodup) : ∀ p ∈ lmOf ps (us.map er) rest, ((ps.zip us).reverse.lookup p.1).map er = p.2 := by
  intro p hp
  have nd1 := (List.nodup_append.mp nd)
  unfold lmOf at hp
  rcases List.mem_append.mp hp with hp | hp
  · obtain ⟨q, hq, rfl⟩ := List.mem_map.mp hp
    rw [List.zip_map_right] at hq
    obtain ⟨r, hr, rfl⟩ := List.mem_map.mp hq
    show ((ps.zip us).reverse.lookup r.1).map er = some (er r.2)
    rw [lookup_zip_rev nd1.1 r hr]; rfl
  · obtain ⟨x, hx, rfl⟩ := List.mem_map.mp hp
    show ((ps.zip us).reverse.lookup x).map er = Option.none
    rw [lookup_none_of]; rfl
    rw [List.map_reverse, List.mem_reverse]
    intro h
    exact nd1.2.2 x (zip_fst_mem h) x hx rfl
theorem lmOf_keys {ps rest : List Str} {vs : List Val} (h : ps.length = vs.length) : (lmOf ps vs rest).map (·.1) = ps ++ rest := by
  unfold lmOf
  rw [List.map_append, List.map_map, List.map_map]
  congr 1
  · show (ps.zip vs).map (fun p => p.1) = ps
    rw [List.map_fst_zip (Nat.le_of_eq h)]
  · show rest.map (fun x => x) = rest
    simp

/-! ### calls of defs -/
section
variable {B : Bd} {φ : Phi} {A : Around} {σ : Sig} {E : Value → Shared → Prop}
/-- what a call's frame does with a raise -/
noncomputable def ELeave (w : World) (A : Around) (env : Env) (E : Value → Shared → Prop) : Value → Shared → Prop :=
  fun e s' => wpAny (M0 w) A («leaving» env e) (fun _ s'' => E e s'') (fun e' s'' => E e' s'') s'
theorem ELeave.passes {w : World} {A : Around} {env : Env} : PassesOwn (M0 w) A env (ELeave w A env E) := PassesOwn.leaving
noncomputable def retOf : Fl → Val
  | .ret v => v
  | _ => .none

/-- a def without cells, called by place -/
theorem Cl.def0 {a : Addr} {o : Obj} {fd : FuncData} {body : List Stmt} {vs : List Val} {ps rest : List Str} {gl : List (Str × Value)} {Q : Val → Sig → Prop} {k : Nat}
    (hA : AOk A (k + 1)) (hK : (K0 B.w).lookup a = some o) (hd : o.data = .func fd) (hcode : codeIn (K0 B.w) fd.code fd.qualname = true) (hb : fd.body = .stmts body)
    (hbind : ∀ us, us.length = vs.length → bindArgs fd ⟨us, []⟩ = pure (ps.zip us)) (hl : ps.length = vs.length)
    (hchk : fmChk fd.scope (ps ++ rest) [] (gl.map (·.1)) = true) (hgv : ∀ p ∈ gl, GVal B.w p.1 p.2)
    (h : ∀ env A' E', (∀ b c, σ b = some c → b < env.locals) → AOk A' k → A' = A.deeper env → E' = ELeave B.w A' env E → PassesOwn (M0 B.w) A' env E' →
      Es B φ A' ⟨env, [], gl⟩ (lmOf ps vs rest) body σ (fun r _ σ' => Q (retOf r) σ') E')
    (hgl : fd.globals = mainGlobals := by rfl) (hbl : fd.builtins = builtinsNs := by rfl)
    (hcell : ∀ x ∈ fd.scope.names, x.2 ≠ .cell := by decide)
    (hco : fd.scope.isCoroutine = false := by rfl) (hgen : fd.scope.isGenerator = false := by rfl) (hk : fd.scope.kind = .function := by rfl) :
    Cl B φ A (.ref a) vs [] σ Q E := fun us ks hu hks s F S => by
  have hks' : ks = [] := by cases ks <;> first | rfl | cases hks
  subst hks'
  have hul : us.length = vs.length := by rw [← hu, List.length_map]
  have nd : (ps ++ rest).Nodup := by
    unfold fmChk at hchk
    simp only [Bool.and_eq_true, decide_eq_true_eq] at hchk
    exact hchk.1.1.2
  have locs : ∀ x ∈ ps.zip us, fd.scope.names.lookup x.1 = some .local := fun x hx => by
    unfold fmChk at hchk
    simp only [Bool.and_eq_true, List.all_eq_true, beq_iff_eq] at hchk
    exact (hchk.1.1.1.2 x.1 (List.mem_append_left _ (List.of_mem_zip hx).1)).1
  refine wpAny_call (codeAny_call_def (fd := fd) (body := body) (binds := ps.zip us) (by have := hA.d; show A.depth < 1000; omega) (S.kin _ _ hK) hd S.nolim (codeRec_of S.kin hcode) hb
    (BindsTo.of_eq (hbind us hul)) hcell locs (fun h₀ hn hk₀ => ?_) hco hgen hk)
  have S' : St B ((s.heap.objs.size, .fr ⟨callEnv fd s.heap.objs.size a, [], gl⟩ (lmOf ps vs rest)) :: φ) σ { s with heap := h₀, toks := s.toks + (ps.zip us).length } := by
    have S₁ := S.ext (h' := h₀) (tk := s.toks + (ps.zip us).length) hk₀
    have fr := S.fresh
    refine ⟨S₁.bs, S₁.base, S₁.keep, S₁.sg, fun p hp => ?_, List.nodup_cons.mpr ⟨fun q => ?_, S₁.nd⟩⟩
    · rcases List.mem_cons.mp hp with rfl | hp
      · refine ⟨⟨rfl, FmOk.of ?_ hgl hbl (fun _ hp => nomatch hp) hgv, _, hn, ?_⟩, fr.2.2, fr.1, S.big⟩
        · show fmChk fd.scope ((lmOf ps vs rest).map (·.1)) [] (gl.map (·.1)) = true
          rw [lmOf_keys hl]; exact hchk
        · rw [← hu]; exact lmOf_reads nd
      · exact S₁.ph p hp
    · obtain ⟨p, hp, e⟩ := List.mem_map.mp q
      exact fr.2.1 p hp e
  have FF : FrOk (A.deeper (callEnv fd s.heap.objs.size a)) ((s.heap.objs.size, .fr ⟨callEnv fd s.heap.objs.size a, [], gl⟩ (lmOf ps vs rest)) :: φ) :=
    F.deeper (by show fd.scope.kind ≠ .module; rw [hk]; decide) rfl
  refine wpAny_mono (h (callEnv fd s.heap.objs.size a) (A.deeper (callEnv fd s.heap.objs.size a)) (ELeave B.w _ _ E) (fun b c e => Heap.lt_size (S.look e).ex.choose_spec) (hA.deeper (Nat.le_refl _)) rfl rfl ELeave.passes _ FF S') (fun r s' hr => ?_) fun _ _ e => e
  obtain ⟨m', σ', S'', q⟩ := hr
  refine ⟨σ', S''.drop, ?_⟩
  cases r <;> exact q
end
end Mine
end
section
open PySem PySem.W PyProof.Rows
set_option maxRecDepth 100000
set_option Elab.async false
set_option linter.unusedVariables false
namespace Mine
section
variable {B : Bd} {φ : Phi} {A : Around} {f : Fm} {m : LM} {σ : Sig} {E : Value → Shared → Prop}

/-! ### methods -/
noncomputable def Gm (B : Bd) (φ : Phi) (A : Around) (a : Val) (name : Str) (σ : Sig) (Q : Value → List Value → Sig → Prop) (E : Value → Shared → Prop) : Prop :=
  ∀ u pl, er u = a → T B φ A (getMethod u name pl) σ (fun r => Q r.1 r.2) E
theorem Ev.meth {o : Expr} {name : Str} {apos pos : Pos} {es : List Expr} {ks : List Keyword} {Q : Val → Sig → Prop}
    (h : Ev B φ A f m o σ (fun a σ₁ => Gm B ((f.env.locals, .fr f m) :: φ) A a name σ₁ (fun g first σ₂ =>
      El B φ A f m pos es σ₂ (fun vs σ₃ => Ek B φ A f m pos ks σ₃ (fun kw σ₄ => Kp B ((f.env.locals, .fr f m) :: φ) g σ₄ ∧ Cl B ((f.env.locals, .fr f m) :: φ) A g (first.map er ++ vs) kw σ₄ Q E) E) E) E) E)
    (hbase : attributeBase o name f.env (eval o f.env) = eval o f.env := by rfl)
    (hfew : methodCallForm (es.length + ks.length) (backTo pos (starEach es f.env)) (backToKw pos (keywordEach ks f.env)) = true := by rfl)
    (hline : (apos.endLine == pos.line) = true := by rfl)
    (hp : (starEach es f.env).any (·.1) = false := by rfl) (hks : (backToKw pos (keywordEach ks f.env)).all (·.1.isSome) = true := by rfl) (hks' : (backToKw pos (keywordEach ks f.env)).any (·.1.isNone) = false := by rfl) :
    Ev B φ A f m (.Call (.Attribute o name apos) es ks pos) σ Q E := fun s F S => by
  have hpos : methodCallPos true o f.env apos pos = pure pos := by unfold methodCallPos; simp [hline]
  show wpAny (M0 B.w) A (eval (.Call (.Attribute o name apos) es ks pos) f.env) _ E s
  rw [arm_eval_Call, hbase]
  refine wpAny_bind (wpAny_mono (h s F S) (fun ov s₁ ⟨σ₁, S₁, h₁⟩ => wpAny_bind (wpAny_standAt ?_)) fun _ _ e => e)
  unfold methodCall
  rw [hfew]
  refine wpAny_bind (wpAny_holding (wpAny_mono (h₁ ov _ rfl s₁ F S₁) (fun r s₂ ⟨σ₂, S₂, h₂⟩ => ?_) fun _ _ e => e))
  exact wpAny_bind (wpAny_of_eq hpos (T.callWith h₂ hp hks hks' s₂ F S₂))
theorem Gm.list {l : Addr} {vs : List Val} {name : Str} {id : String} {Q : Value → List Value → Sig → Prop} (hl : σ l = some (.list vs)) (slot : PySem.Slot "list" name id) (hty : typeOf (.builtin id) = pure (.type "method_descriptor")) (q : Q (.builtin id) [.ref l] σ) :
    Gm B φ A (.ref l) name σ Q E := fun u pl hu s F S => by
  rw [er_ref hu]
  obtain ⟨items, n, ho, _⟩ := S.look hl
  exact getMethod_builtin (S.tyList hl) PySem.F.plainAttrs_list slot hty (fun a e => by cases e; exact ⟨_, ho, rfl⟩) ⟨σ, S, q⟩
theorem Gm.append {l : Addr} {vs : List Val} {Q : Value → List Value → Sig → Prop} (hl : σ l = some (.list vs)) (q : Q (.builtin "list.append") [.ref l] σ) : Gm B φ A (.ref l) (Str.ofString "append") σ Q E := Gm.list hl PySem.F.slot_list_append PySem.F.type_list_append q
theorem Gm.pop {l : Addr} {vs : List Val} {Q : Value → List Value → Sig → Prop} (hl : σ l = some (.list vs)) (q : Q (.builtin "list.pop") [.ref l] σ) : Gm B φ A (.ref l) (Str.ofString "pop") σ Q E := Gm.list hl PySem.F.slot_list_pop PySem.F.type_list_pop q
theorem Gm.reverse {l : Addr} {vs : List Val} {Q : Value → List Value → Sig → Prop} (hl : σ l = some (.list vs)) (q : Q (.builtin "list.reverse") [.ref l] σ) : Gm B φ A (.ref l) (Str.ofString "reverse") σ Q E := Gm.list hl PySem.F.slot_list_reverse PySem.F.type_list_reverse q

theorem one_arg {us : List Value} {v : Val} (h : us.map er = [v]) : ∃ u, us = [u] ∧ er u = v := by
  obtain ⟨u, rfl⟩ : ∃ u, us = [u] := hb1 (P := fun us => ∃ u, us = [u]) (fun u => ⟨u, rfl⟩) us (by rw [← List.length_map (f := er), h]; rfl)
  exact ⟨u, rfl, (List.cons.inj h).1⟩
theorem two_arg {us : List Value} {v w : Val} (h : us.map er = [v, w]) : ∃ u x, us = [u, x] ∧ er u = v ∧ er x = w := by
  obtain ⟨u, x, rfl⟩ : ∃ u x, us = [u, x] := hb2 (P := fun us => ∃ u x, us = [u, x]) (fun u x => ⟨u, x, rfl⟩) us (by rw [← List.length_map (f := er), h]; rfl)
  obtain ⟨h1, h2⟩ := List.cons.inj h
  exact ⟨u, x, rfl, h1, (List.cons.inj h2).1⟩
theorem three_arg {us : List Value} {v w x : Val} (h : us.map er = [v, w, x]) : ∃ u y z, us = [u, y, z] ∧ er u = v ∧ er y = w ∧ er z = x := by
  obtain ⟨u, y, z, rfl⟩ : ∃ u y z, us = [u, y, z] := hb3 (P := fun us => ∃ u y z, us = [u, y, z]) (fun u y z => ⟨u, y, z, rfl⟩) us (by rw [← List.length_map (f := er), h]; rfl)
  obtain ⟨h1, h2⟩ := List.cons.inj h
  obtain ⟨h2, h3⟩ := List.cons.inj h2
  exact ⟨u, y, z, rfl, h1, h2, (List.cons.inj h3).1⟩
theorem no_kw {ks : List (Str × Value)} (h : ks.map (fun p : Str × Value => (p.1, er p.2)) = []) : ks = [] := by cases ks <;> first | rfl | cases h
theorem big_le {n : Nat} (h : n ≤ 100000) : n ≤ sizeLine := by rw [sizeLine_eq]; omega

theorem Cl.append {l : Addr} {vs : List Val} {v : Val} {Q : Val → Sig → Prop} (hl : σ l = some (.list vs)) (hz : vs.length ≤ 100000) (q : Q .none (σ.upd l (.list (vs ++ [v])))) : Cl B φ A (.builtin "list.append") [.ref l, v] [] σ Q E := fun us ks hu hk s F S => by
  obtain ⟨a, x, rfl, ha, hx⟩ := two_arg hu; rw [no_kw hk, er_ref ha]
  obtain ⟨items, n, ho, e⟩ := S.look hl
  subst e hx
  refine call_meets PySem.F.slot_list_append (S.tyList hl) PySem.F.entry_list_append (PySem.F.args_list_append_2 _ _) (AutoListH.list_append_list_val_0 l items n x (big_le (by simpa using hz))) ⟨ho, _, S.upd (c' := .list (items.toList.map er ++ [er x])) hl (fun b o hb e => (Heap.get?_update_ne _ _ _ _ hb).trans e) ?_, q⟩
  exact ⟨_, _, PySem.IsL.update ho (fun y => y.push x), by rw [Array.toList_push, List.map_append]; rfl⟩
theorem Cl.pop0 {l : Addr} {vs : List Val} {v : Val} {Q : Val → Sig → Prop} (hl : σ l = some (.list (v :: vs))) (hz : vs.length ≤ 1000) (q : Q v (σ.upd l (.list vs))) : Cl B φ A (.builtin "list.pop") [.ref l, .int 0] [] σ Q E := fun us ks hu hk s F S => by
  obtain ⟨a, x, rfl, ha, hx⟩ := two_arg hu; rw [no_kw hk, er_ref ha]
  obtain ⟨t, rfl⟩ := er_int hx
  obtain ⟨items, n, ho, e⟩ := S.look hl
  obtain ⟨l'⟩ := items
  simp only at e
  match l', e with
  | y :: r, e =>
    simp only [List.map_cons, List.cons.injEq] at e
    obtain ⟨rfl, rfl⟩ := e
    refine call_meets PySem.F.slot_list_pop (S.tyList hl) PySem.F.entry_list_pop (PySem.F.args_list_pop_2 _ _) (MeetsSeq.list_pop_at l ⟨y :: r⟩ n 0 t 0 y (by decide) (by simp [seqIndex?]) rfl (big_le (by simp at hz ⊢; omega))) ⟨ho, _, S.upd (c' := .list (r.map er)) hl (fun b o hb e => (Heap.get?_update_ne _ _ _ _ hb).trans e) ?_, q⟩
    exact ⟨_, _, PySem.IsL.update ho (fun xs => xs.eraseIdxIfInBounds 0), by simp [Array.eraseIdxIfInBounds]⟩
theorem Cl.reverse {l : Addr} {vs : List Val} {Q : Val → Sig → Prop} (hl : σ l = some (.list vs)) (hz : vs.length ≤ 1000) (q : Q .none (σ.upd l (.list vs.reverse))) : Cl B φ A (.builtin "list.reverse") [.ref l] [] σ Q E := fun us ks hu hk s F S => by
  obtain ⟨a, rfl, ha⟩ := one_arg hu; rw [no_kw hk, er_ref ha]
  obtain ⟨items, n, ho, e⟩ := S.look hl
  subst e
  refine call_meets PySem.F.slot_list_reverse (S.tyList hl) PySem.F.entry_list_reverse (PySem.F.args_list_reverse_1 _) (AutoListH.list_reverse_list_0 l items n (big_le (by simp at hz; omega))) ⟨ho, _, S.upd (c' := .list (items.toList.map er).reverse) hl (fun b o hb e => (Heap.get?_update_ne _ _ _ _ hb).trans e) ?_, q⟩
  exact ⟨_, _, PySem.IsL.update ho (fun x => x.reverse), by simp⟩

/-! ### lists compared -/
theorem ints_of : ∀ {vs : List Value} {ns : List Int}, vs.map er = ns.map Val.int → IntsAre vs ns
  | [], [], _ => by first | exact .nil | trivial
  | v :: vs, n :: ns, h => by
    simp only [List.map_cons, List.cons.injEq] at h
    obtain ⟨t, rfl⟩ := er_int h.1
    exact IntsAre.cons n t (ints_of h.2)
theorem St.ints {B : Bd} {φ : Phi} {σ : Sig} {s : Shared} (S : St B φ σ s) {l : Addr} {ns : List Int} (hl : σ l = some (.list (ns.map Val.int))) : ∃ vs : List Value, s.heap.IsList l vs.toArray ∧ IntsAre vs ns := by
  obtain ⟨items, n, ho, e⟩ := S.look hl
  exact ⟨items.toList, ⟨_, ho, rfl, n, by simp⟩, ints_of e⟩
theorem Cm.neInts {a b : Addr} {ns ms : List Int} {Q : Val → Sig → Prop} (hA : AOk A 1) (ha : σ a = some (.list (ns.map Val.int))) (hb : σ b = some (.list (ms.map Val.int))) (q : Q (.bool (!decide (ns = ms))) σ) :
    Cm B φ A .NotEq (.ref a) (.ref b) σ Q E := fun u v hu hv s F S => by
  rw [er_ref hu, er_ref hv]
  obtain ⟨vs, h1, h2⟩ := S.ints ha
  obtain ⟨us, h3, h4⟩ := S.ints hb
  exact ne_intsK h1 h2 h3 h4 (by have := hA.u; rw [cLine_is]; omega) ⟨σ, S, q⟩
end
end Mine
end
section
open PySem PySem.W PyProof.Rows
set_option maxRecDepth 100000
set_option Elab.async false
set_option linter.unusedVariables false
namespace Mine
/-! ### raising while an exception is being handled -/
noncomputable def HdAt (A : Around) (x : Addr) (h : Heap) : Prop :=
  A.handled = none ∨ ∃ a o fs, A.handled = some (.ref a) ∧ a ≠ x ∧ h.get? a = some o ∧ o.data = .fields fs ∧ fs[2]? = some .none
section
variable {w : World} {A : Around} {E : Value → Shared → Prop} {s : Shared}
theorem entry_unchain : entryFor table "proto.unchain" = some Builtin.«proto.unchain» := entryFor_of_fast (by kernel_rfl)
theorem raiseNew_hd {α : Type} {x : Addr} {ox : Obj} {vs : Array Value} {Q : α → Shared → Prop} (hh : HdAt A x s.heap) (hx : s.heap.get? x = some ox) (hd : ox.data = .fields vs) (h2 : 2 < vs.size)
    (hE : ∀ h', (∀ b o, b ≠ x → s.heap.get? b = some o → h'.get? b = some o) → (∃ o', h'.get? x = some o' ∧ o'.cls = ox.cls) → E (.ref x) { s with heap := h' }) :
    wpAny (M0 w) A (raiseNew (.ref x) : Sem α) Q E s := by
  simp only [raiseNew]
  rcases hh with hh | ⟨a, o, fs, hh, hax, ho, hf, h0⟩
  · refine wpAny_bind (wpAny_handled ?_)
    rw [hh]
    exact wpAny_bind (wpAny_pure (wpAny_throw (hE s.heap (fun _ _ _ e => e) ⟨_, hx, rfl⟩)))
  · refine wpAny_bind (wpAny_handled ?_)
    rw [hh]
    have hne : (Value.ref a != Value.ref x) = true := by
      rw [bne_iff_ne]; intro e; cases e; exact hax rfl
    show wpAny _ _ (if (Value.ref a != Value.ref x) = true then _ else _) _ _ _
    rw [if_pos hne]
    refine wpAny_bind (wpAny_holding (runValue_entry entry_unchain ?_))
    show wpAny _ _ (field (.ref a) 2 >>= _) _ _ _
    refine wpAny_bind (wpAny_field ho hf h0 ?_)
    show wpAny _ _ (if (Value.none == Value.none) = true then _ else _) _ _ _
    rw [if_pos (beq_self_eq_true _)]
    refine wpAny_pure ⟨_, rfl, ?_⟩
    refine wpAny_bind (wpAny_setField hx hd h2 ?_)
    refine wpAny_throw (hE _ (fun b o hb e => (Heap.get?_update_ne _ _ _ _ hb).trans e) ⟨_, Heap.get?_update_self _ hx (Obj.isFreed_of_fields (Obj.data_mapFields hd _)), Obj.cls_mapFields ..⟩)

theorem next_list_end {it l : Addr} {i : Nat} {items} {Q : Option Value → Shared → Prop} (hh : ∀ h' x, s.heap.objs.size < x → (∀ b o, b ≠ it → s.heap.get? b = some o → h'.get? b = some o) → HdAt A x h')
    (hit : s.heap.IsListIter it l i) (hl : s.heap.IsList l items) (hx : items[i]? = none)
    (hQ : ∀ h', Heap.ExtBut it s.heap h' → Q none { s with heap := h' }) : wpAny (M0 w) A (pyNext (.ref it)) Q E s := by
  obtain ⟨o, ho, hc, hd⟩ := id hit
  obtain ⟨ol, hol, _, nl, hdl⟩ := hl
  unfold pyNext
  refine wpAny_bind (wpAny_attempt (wpAny_callSpecial?_slot (name := Str.ofString "__next__") hit.typeIs slot_listiter_next
    (wpAny_call_entry slot_listiter_next hit.typeIs entry_listiter_next ?_ (args_listiter_next _))))
  show wpAny _ _ (field (.ref it) 0 >>= _) _ _ s
  refine wpAny_bind (wpAny_field ho hd (x := .ref l) rfl ?_)
  show wpAny _ _ (if (Value.ref l == Value.none) = true then _ else _) _ _ s
  rw [if_neg (show ¬ ((Value.ref l == Value.none) = true) from Bool.false_ne_true)]
  show wpAny _ _ (field (.ref it) 1 >>= _) _ _ s
  refine wpAny_bind (wpAny_field ho hd (x := .int i 0) rfl ?_)
  show wpAny _ _ (seqItems? (.ref l) >>= _) _ _ s
  refine wpAny_bind (wpAny_seqItems hol hdl ?_)
  simp only [Int.toNat_natCast, hx]
  refine wpAny_bind (wpAny_rule (wpAny_bind (wpAny_setField ho hd (by simp) ?_)))
  show wpAny _ _ (newExc (.type "StopIteration") [] >>= _) _ _ _
  refine wpAny_bind ?_
  simp only [newExc, newTuple]
  refine wpAny_bind (wpAny_newObj_type ?_ (by size_fits))
  refine wpAny_bind (m := firstArgMember _ _) (wpAny_of_eq (a := Value.none) (by first | rfl | (simp only [firstArgMember]; rfl)) ?_)
  refine wpAny_newObj_type ?_ (by size_fits)
  have k0 := ((Heap.SameBut.update s.heap it (Obj.mapFields fun x => x.setIfInBounds 0 Value.none)).extBut.push { cls := .type "tuple", data := .seq ([] : List Value).toArray })
  refine raiseNew_hd (A := A.in1) (hh _ _ ?_ ((Heap.ExtBut.push k0 _))) (Heap.get?_push_size _ rfl) rfl (by simp only [Array.size_append]; exact Nat.lt_of_lt_of_le (by decide : 2 < 6) (Nat.le_add_right _ _)) fun h' k' t' => ?_
  · rw [Heap.size_push, (Heap.SameBut.update s.heap it (Obj.mapFields fun x => x.setIfInBounds 0 Value.none)).1]; exact Nat.lt_succ_self _
  · obtain ⟨o', ho', hc'⟩ := t'
    refine wpAny_bind (wpAny_isInstance (T := "StopIteration") (b := true) ⟨_, ho', hc'⟩ isSubtype_stop ?_)
    refine wpAny_pure (hQ _ fun b o hb e => k' b o ?_ (Heap.ExtBut.push k0 _ b o hb e))
    intro e'
    have := Heap.lt_size e
    rw [e', Heap.size_push, (Heap.SameBut.update s.heap it (Obj.mapFields fun x => x.setIfInBounds 0 Value.none)).1] at this
    exact absurd (Nat.lt_of_succ_lt this) (Nat.lt_irrefl _)

theorem next_range_end {it : Addr} {x left step : Int} {Q : Option Value → Shared → Prop} (hh : ∀ h' x, s.heap.objs.size < x → (∀ b o, b ≠ it → s.heap.get? b = some o → h'.get? b = some o) → HdAt A x h')
    (hit : IsRangeIter s.heap it x left step) (hleft : left ≤ 0)
    (hQ : ∀ h', Heap.ExtBut it s.heap h' → Q none { s with heap := h' }) : wpAny (M0 w) A (pyNext (.ref it)) Q E s := by
  have hT : s.TypeIs (.ref it) "range_iterator" := ⟨_, hit, rfl⟩
  unfold pyNext
  refine wpAny_bind (wpAny_attempt (wpAny_callSpecial?_slot (name := Str.ofString "__next__") hT F.slot_range_iterator_next
    (wpAny_call_entry F.slot_range_iterator_next hT F.entry_range_iterator_next ?_ (F.args_range_iterator_next_1 _))))
  show wpAny _ _ (field (.ref it) 0 >>= _) _ _ s
  refine wpAny_bind (wpAny_field hit rfl (x := rawInt x) rfl ?_)
  show wpAny _ _ (field (.ref it) 1 >>= _) _ _ s
  refine wpAny_bind (wpAny_field hit rfl (x := rawInt left) rfl ?_)
  show wpAny _ _ (field (.ref it) 2 >>= _) _ _ s
  refine wpAny_bind (wpAny_field hit rfl (x := rawInt step) rfl ?_)
  show wpAny _ _ (if left ≤ 0 then _ else _) _ _ s
  rw [if_pos hleft]
  refine wpAny_bind (wpAny_rule ?_)
  refine wpAny_bind ?_
  show wpAny _ _ (newExc (.type "StopIteration") [] >>= _) _ _ _
  refine wpAny_bind ?_
  simp only [newExc, newTuple]
  refine wpAny_bind (wpAny_newObj_type ?_ (by size_fits))
  refine wpAny_bind (m := firstArgMember _ _) (wpAny_of_eq (a := Value.none) (by first | rfl | (simp only [firstArgMember]; rfl)) ?_)
  refine wpAny_newObj_type ?_ (by size_fits)
  have k0 := ((Heap.ExtBut.refl it s.heap).push { cls := .type "tuple", data := .seq ([] : List Value).toArray })
  refine raiseNew_hd (A := A.in1) (hh _ _ ?_ ((Heap.ExtBut.push k0 _))) (Heap.get?_push_size _ rfl) rfl (by simp only [Array.size_append]; exact Nat.lt_of_lt_of_le (by decide : 2 < 6) (Nat.le_add_right _ _)) fun h' k' t' => ?_
  · rw [Heap.size_push]; exact Nat.lt_succ_self _
  · obtain ⟨o', ho', hc'⟩ := t'
    refine wpAny_bind (wpAny_isInstance (T := "StopIteration") (b := true) ⟨_, ho', hc'⟩ isSubtype_stop ?_)
    refine wpAny_pure (hQ _ fun b o hb e => k' b o ?_ (Heap.ExtBut.push k0 _ b o hb e))
    intro e'
    have := Heap.lt_size e
    rw [e', Heap.size_push] at this
    exact absurd (Nat.lt_of_succ_lt this) (Nat.lt_irrefl _)
end
/-- the handled exception is not what is being made -/
theorem St.hd {B : Bd} {φ : Phi} {σ : Sig} {s : Shared} {A : Around} (S : St B φ σ s) (F : FrOk A φ) {it : Addr} {c : Cell} (hc : (it, c) ∈ φ) (nc : ∀ P, c ≠ .pr P) : ∀ h' x, s.heap.objs.size < x → (∀ b o, b ≠ it → s.heap.get? b = some o → h'.get? b = some o) → HdAt A x h' := by
  intro h' x hx k
  rcases F.1 with h | ⟨a, P, h, m, r⟩
  · exact .inl h
  · obtain ⟨o, ho, hp⟩ := (S.ph _ m).1
    obtain ⟨fs, h1, h2⟩ := r o hp
    refine .inr ⟨a, o, fs, h, Nat.ne_of_lt (Nat.lt_trans (Heap.lt_size ho) hx), k _ _ (fun e => ?_) ho, h1, h2⟩
    subst e
    have nd := S.nd
    have : ∀ (l : Phi), (l.map (·.1)).Nodup → ∀ p ∈ l, ∀ q ∈ l, p.1 = q.1 → p = q := by
      intro l
      induction l with
      | nil => intro _ p hp; cases hp
      | cons y l ih =>
        intro nd p hp q hq e
        rw [List.map_cons, List.nodup_cons] at nd
        rcases List.mem_cons.mp hp with h1 | h1 <;> rcases List.mem_cons.mp hq with h2 | h2
        · rw [h1, h2]
        · exact absurd (by rw [← h1, e]; exact List.mem_map_of_mem h2) nd.1
        · exact absurd (by rw [← h2, ← e]; exact List.mem_map_of_mem h1) nd.1
        · exact ih nd.2 p h1 q h2 e
    exact nc P (Prod.mk.inj (this φ nd _ hc _ m rfl)).2

/-! ### loops -/
section
variable {B : Bd} {φ : Phi} {A : Around} {f : Fm} {m : LM} {σ : Sig} {E : Value → Shared → Prop}
/-- what a row of values is gone through by: the iterator's cell before the i-th value, and what must hold for a step -/
structure Gang (B : Bd) (A : Around) (it : Addr) (c : Nat → Cell) (vs : List Val) (R : Sig → Prop) : Prop where
  item : ∀ φ σ s i x (Q : Option Value → Shared → Prop) E, St B ((it, c i) :: φ) σ s → R σ → vs[i]? = some x → (∀ v s', er v = x → St B ((it, c (i + 1)) :: φ) σ s' → Q (some v) s') → wpAny (M0 B.w) A (pyNext (.ref it)) Q E s
  last : ∀ φ σ s i (Q : Option Value → Shared → Prop) E, FrOk A ((it, c i) :: φ) → St B ((it, c i) :: φ) σ s → R σ → vs[i]? = none → (∀ s', St B φ σ s' → Q none s') → wpAny (M0 B.w) A (pyNext (.ref it)) Q E s
  plain : ∀ i f m, c i ≠ .fr f m
  self : ∀ φ σ s i (Q : Value → Shared → Prop) E, St B ((it, c i) :: φ) σ s → Q (.ref it) s → wpAny (M0 B.w) A (pyIter (.ref it)) Q E s
/-- what `iter` gives for a value -/
noncomputable def It (B : Bd) (φ : Phi) (A : Around) (a : Val) (σ : Sig) (vs : List Val) (R : Sig → Prop) (K : Sig → Prop) : Prop :=
  ∀ u s (Q : Value → Shared → Prop) E, er u = a → FrOk A φ → St B φ σ s → (∀ it c σ' s', St B ((it, c 0) :: φ) σ' s' → K σ' → Gang B A it c vs R → Q (.ref it) s') → wpAny (M0 B.w) A (pyIter u) Q E s

theorem St.alter {B : Bd} {φ : Phi} {σ : Sig} {s : Shared} {a : Addr} {c c' : Cell} (S : St B ((a, c) :: φ) σ s) {h' : Heap} {tk : Nat} (k : ∀ b o, b ≠ a → s.heap.get? b = some o → h'.get? b = some o) (hc : CellAt B.w h' a c') :
    St B ((a, c') :: φ) σ { s with heap := h', toks := tk } := S.head k hc
/-- a hidden cell goes, with its place -/
theorem St.lose {B : Bd} {φ : Phi} {σ : Sig} {s : Shared} {a : Addr} {c : Cell} (S : St B ((a, c) :: φ) σ s) {h' : Heap} {tk : Nat} (k : ∀ b o, b ≠ a → s.heap.get? b = some o → h'.get? b = some o) : St B φ σ { s with heap := h', toks := tk } := by
  obtain ⟨b, ⟨h, t, e⟩, kp, d, f, g⟩ := S
  have na := (f _ (.head _)).2
  have nd : a ∉ φ.map (·.1) := (List.nodup_cons.mp g).1
  refine ⟨b, ⟨h', tk, by rw [e]⟩, fun x o q => k x o (fun z => by rw [z, na.1] at q; cases q) (kp x o q), fun x y q => ?_, fun p q => ?_, (List.nodup_cons.mp g).2⟩
  · exact ⟨CellAt.keep (fun o => k x o fun z => by rw [z, na.2.1] at q; cases q) (d x y q).1, (d x y q).2⟩
  · have := f p (.tail _ q)
    exact ⟨CellAt.keep (fun o => k _ o fun z => nd (by rw [← z]; exact List.mem_map_of_mem q)) this.1, this.2⟩
/-- a new hidden cell -/
theorem St.allocH {B : Bd} {φ : Phi} {σ : Sig} {s : Shared} (S : St B φ σ s) {c : Cell} {h' : Heap} {tk : Nat} (k : ∀ b o, s.heap.get? b = some o → h'.get? b = some o) (hc : CellAt B.w h' s.heap.objs.size c) :
    St B ((s.heap.objs.size, c) :: φ) σ { s with heap := h', toks := tk } := by
  have fr := S.fresh
  have bg := S.big
  have S₁ := S.ext (h' := h') (tk := tk) k
  refine ⟨S₁.bs, S₁.base, S₁.keep, S₁.sg, fun p hp => ?_, List.nodup_cons.mpr ⟨fun q => ?_, S₁.nd⟩⟩
  · rcases List.mem_cons.mp hp with rfl | hp
    · exact ⟨hc, fr.2.2, fr.1, bg⟩
    · exact S₁.ph p hp
  · obtain ⟨p, hp, e⟩ := List.mem_map.mp q
    exact fr.2.1 p hp e
theorem Gang.list {it l : Addr} {vs : List Val} : Gang B A it (fun i => .lit l i) vs (fun σ => σ l = some (.list vs)) where
  item φ σ s i x Q E S hl hx hQ := by
    obtain ⟨items, n, ho, e⟩ := S.look hl
    subst e
    rw [List.getElem?_map] at hx
    cases q' : items.toList[i]? with
    | none => rw [q'] at hx; cases hx
    | some y =>
      rw [q'] at hx; cases hx
      exact wpAny_pyNext_list_item (S.ph _ (.head _)).1 ⟨_, ho, rfl, n, rfl⟩ (by rw [← Array.getElem?_toList]; exact q') fun h' hi hs => hQ _ _ rfl (S.alter hs.extBut hi)
  last φ σ s i Q E F S hl hx hQ := by
    obtain ⟨items, n, ho, e⟩ := S.look hl
    subst e
    rw [List.getElem?_map, Option.map_eq_none_iff] at hx
    exact next_list_end (S.hd F (.head _) (fun _ => Cell.noConfusion)) (S.ph _ (.head _)).1 ⟨_, ho, rfl, n, rfl⟩ (by rw [← Array.getElem?_toList]; exact hx) fun h' hs => hQ _ (S.lose hs)
  plain i _ _ := Cell.noConfusion
  self φ σ s i Q E S q := wpAny_pyIter_listiter (S.ph _ (.head _)).1 q
end
end Mine
end
section
open PySem PySem.W PyProof.Rows
set_option maxRecDepth 100000
set_option Elab.async false
set_option linter.unusedVariables false
namespace Mine
section
variable {B : Bd} {φ : Phi} {A : Around} {f : Fm} {m : LM} {σ : Sig} {E : Value → Shared → Prop}
theorem It.list {l : Addr} {vs : List Val} {K : Sig → Prop} (hl : σ l = some (.list vs)) (k : K σ) : It B φ A (.ref l) σ vs (fun σ => σ l = some (.list vs)) K := fun u s Q E hu F S h => by
  rw [er_ref hu]
  obtain ⟨items, n, ho, e⟩ := S.look hl
  exact wpAny_pyIter_list ⟨_, ho, rfl, n, rfl⟩ (h _ _ σ _ (S.allocH (c := .lit l 0) (fun b o e => Heap.get?_push_of_some _ e) ⟨_, Heap.get?_push_size _ rfl, rfl, rfl⟩) k Gang.list)
/-- an iterator under way -/
theorem It.lit {it l : Addr} {j : Nat} {vs : List Val} {K : Sig → Prop} (hi : σ it = some (.lit l j)) (k : K (σ.del it)) : It B φ A (.ref it) σ (vs.drop j) (fun σ => σ l = some (.list vs)) K := fun u s Q E hu F S h => by
  rw [er_ref hu]
  refine wpAny_pyIter_listiter (S.look hi) (h it (fun i => .lit l (j + i)) (σ.del it) s (S.hide hi) k ?_)
  have G : Gang B A it (fun i => .lit l i) vs (fun σ => σ l = some (.list vs)) := Gang.list
  exact { item := fun φ σ s i x Q E S hR hx hQ => G.item φ σ s (j + i) x Q E S hR (by rw [List.getElem?_drop] at hx; exact hx) hQ
          last := fun φ σ s i Q E F S hR hx hQ => G.last φ σ s (j + i) Q E F S hR (by rw [List.getElem?_drop] at hx; exact hx) hQ
          plain := fun i => G.plain (j + i)
          self := fun φ σ s i Q E S q => G.self φ σ s (j + i) Q E S q }
/-! ### ranges -/
noncomputable def rangeC (a b c : Int) : Cell := .pr fun o => ∃ t u v, o = { cls := .type "range", dict := none, data := .fields #[.int a t, .int b u, .int c v], slots := #[] }
noncomputable def ritC (x left step : Int) : Cell := .obj { cls := .type "range_iterator", dict := none, data := .fields #[rawInt x, rawInt left, rawInt step], slots := #[] }
noncomputable def upTo (n : Int) : List Val := (List.range n.toNat).map fun (i : Nat) => Val.int (Int.ofNat i)
theorem upTo_get {n : Int} {i : Nat} {x : Val} (h : (upTo n)[i]? = some x) : x = .int i ∧ (i : Int) < n := by
  unfold upTo at h
  rw [List.getElem?_map] at h
  cases q : (List.range n.toNat)[i]? with
  | none => rw [q] at h; cases h
  | some y =>
    rw [q] at h; cases h
    have := List.getElem?_eq_some_iff.mp q
    obtain ⟨h1, h2⟩ := this
    rw [List.getElem_range] at h2
    subst h2
    rw [List.length_range] at h1
    exact ⟨rfl, by omega⟩
theorem upTo_len {n : Int} : (upTo n).length = n.toNat := by unfold upTo; simp
theorem Gang.range {it : Addr} {n : Int} {R : Sig → Prop} (hn : 0 ≤ n) : Gang B A it (fun i => ritC i (n - i) 1) (upTo n) R where
  item φ σ s i x Q E S hl hx hQ := by
    obtain ⟨rfl, hi⟩ := upTo_get hx
    refine wpAny_pyNext_range_item (x := i) (left := n - i) (step := 1) (S.ph _ (.head _)).1 (by omega) fun h' hi hs => hQ _ _ rfl (S.alter hs.extBut ?_)
    have e : (n - (i : Int)) - 1 = n - ((i + 1 : Nat) : Int) := by omega
    rw [e] at hi
    exact hi
  last φ σ s i Q E F S hl hx hQ := by
    have hge : n ≤ i := by
      rw [List.getElem?_eq_none_iff, upTo_len] at hx; omega
    exact next_range_end (x := i) (left := n - i) (step := 1) (S.hd F (.head _) (fun _ => Cell.noConfusion)) (S.ph _ (.head _)).1 (by omega) fun h' hs => hQ _ (S.lose hs)
  plain i _ _ := Cell.noConfusion
  self φ σ s i Q E S q := wpAny_pyIter_rangeiter (S.ph _ (.head _)).1 q
theorem It.range {r : Addr} {n : Int} {R K : Sig → Prop} (hr : σ r = some (rangeC 0 n 1)) (h0 : 0 ≤ n) (h1 : n ≤ 2 ^ 40) (k : K σ) : It B φ A (.ref r) σ (upTo n) R K := fun u s Q E hu F S h => by
  rw [er_ref hu]
  obtain ⟨o, ho, t, u', v, rfl⟩ := S.look hr
  refine wpAny_pyIter_range (a := 0) (b := n) (c := 1) ho (small_one (by decide) (by decide) (by omega) (by omega)) (h _ _ σ _ (S.allocH (c := ritC ((0 : Nat) : Int) (n - (0 : Nat)) 1) (fun b o e => Heap.get?_push_of_some _ e) ?_) k (Gang.range h0))
  show Heap.get? _ _ = some _
  rw [rangeSize_one]
  have e : (if (0:Int) < n then n - 0 else 0) = n - ((0 : Nat) : Int) := by split <;> omega
  rw [e]
  exact Heap.get?_push_size _ rfl
theorem Cl.range {n : Int} {Q : Val → Sig → Prop} (q : ∀ a, σ a = none → Q (.ref a) (σ.upd a (rangeC 0 n 1))) : Cl B φ A (.type "range") [.int n] [] σ Q E := fun us ks hu hk s F S => by
  obtain ⟨a, rfl, ha⟩ := one_arg hu; rw [no_kw hk]
  obtain ⟨t, rfl⟩ := er_int ha
  exact call_range_1 ⟨_, S.alloc (c := rangeC 0 n 1) (fun b o e => Heap.get?_push_of_some _ e) ⟨_, Heap.get?_push_size _ rfl, _, _, _, rfl⟩, q _ S.fresh.1⟩
/-! ### values of a dict -/
noncomputable def vitC (d : Addr) (i n ep : Nat) : Cell := .pr fun o => o.cls = .type "dict_valueiterator" ∧ o.data = .fields #[.ref d, .int i 0, .int n 0, .int ep 0]
noncomputable def valuesC (d : Addr) : Cell := .obj { cls := .type "dict_values", data := .fields #[.ref d] }
noncomputable def itemsC (d : Addr) : Cell := .obj { cls := .type "dict_items", data := .fields #[.ref d] }

/-! ### for -/
variable {Q : Fl → LM → Sig → Prop}
noncomputable def Turn (Q : Fl → LM → Sig → Prop) (I : LM → Sig → Prop) : Fl → LM → Sig → Prop
  | .next, m, σ => I m σ
  | .cont, m, σ => I m σ
  | .brk, m, σ => Q .next m σ
  | .ret v, m, σ => Q (.ret v) m σ
theorem Ex.forG {target iter : Expr} {body : List Stmt} {pos : Pos} {vs : List Val} {R : Sig → Prop} (I : Nat → LM → Sig → Prop) (hE : PassesOwn (M0 B.w) A f.env E)
    (h : Ev B φ A f m iter σ (fun v σ₁ => It B ((f.env.locals, .fr f m) :: φ) A v σ₁ vs R (fun σ₂ => I 0 m σ₂)) E)
    (hR : ∀ i m σ, I i m σ → R σ)
    (step : ∀ i x m σ it c, (∀ f m, c ≠ .fr f m) → vs[i]? = some x → I i m σ → ∀ v, er v = x → X B ((it, c) :: φ) A f m (assign target f.env v) σ (fun _ m' σ' => Es B ((it, c) :: φ) A f m' body σ' (Turn Q (I (i + 1))) E) E)
    (done : ∀ m σ, I vs.length m σ → Q .next m σ)
    (hs : ∀ x, foldedSetIterable iter f.env x = pure x := by intro _; rfl) (ht : ∀ it v, letOwnedTupleGo target it v = pure () := by intro _ _; rfl) :
    Ex B φ A f m (.For target iter body [] pos) σ Q E := fun s F S => by
  refine wpAny_For (wpAny_mono (h s F S) (fun u s₁ ⟨σ₁, S₁, h₁⟩ => h₁ u s₁ _ E rfl F S₁ fun it c σ₂ s₂ S₂ hI G => ?_) fun _ _ e => e) hs
  refine codeAny_forLoop (fun n s => ∃ i m σ, St B ((it, c i) :: (f.env.locals, .fr f m) :: φ) σ s ∧ I i m σ ∧ i ≤ vs.length ∧ n = vs.length - i) ?_ (vs.length - 0) ⟨0, m, σ₂, S₂, hI, Nat.zero_le _, rfl⟩ (ht _)
  rintro n s₃ ⟨i, m', σ', S', hI', hi, rfl⟩
  have F' : FrOk A ((f.env.locals, .fr f m') :: φ) := F.turn
  cases hv : vs[i]? with
  | none =>
    refine G.last _ σ' s₃ i _ _ F'.cons S' (hR _ _ _ hI') hv fun s₄ S₄ => wpAny_execs_nil ⟨m', σ', S₄, ?_⟩
    have : i = vs.length := Nat.le_antisymm hi (by simpa using hv)
    exact done _ _ (this ▸ hI')
  | some x =>
    have hlt : i < vs.length := (List.getElem?_eq_some_iff.mp hv).1
    refine G.item _ σ' s₃ i x _ _ S' (hR _ _ _ hI') hv fun v s₄ hv' S₄ => ?_
    refine wpAny_passesOwn hE (wpAny_mono (step i x m' σ' it (c (i + 1)) (G.plain _) hv hI' v hv' s₄ F'.cons.swap S₄.swap) (fun _ s₅ ⟨m₅, σ₅, S₅, h₅⟩ => ?_) fun _ _ e => e)
    refine wpAny_passesOwn hE (wpAny_mono (h₅ s₅ (F.turn (m' := m₅)).cons.swap S₅) (fun r s₆ ⟨m₆, σ₆, S₆, h₆⟩ => ?_) fun _ _ e => e)
    cases r with
    | next => exact ⟨vs.length - (i + 1), by omega, i + 1, m₆, σ₆, S₆.swap, h₆, hlt, rfl⟩
    | cont => exact ⟨vs.length - (i + 1), by omega, i + 1, m₆, σ₆, S₆.swap, h₆, hlt, rfl⟩
    | brk => exact ⟨m₆, σ₆, S₆.swap.drop, h₆⟩
    | ret v => exact ⟨m₆, σ₆, S₆.swap.drop, h₆⟩
/-- for x in .. -/
theorem Ex.for {x : Str} {xp : Pos} {iter : Expr} {body : List Stmt} {pos : Pos} {vs : List Val} {R : Sig → Prop} (I : Nat → LM → Sig → Prop) (hE : PassesOwn (M0 B.w) A f.env E)
    (h : Ev B φ A f m iter σ (fun v σ₁ => It B ((f.env.locals, .fr f m) :: φ) A v σ₁ vs R (fun σ₂ => I 0 m σ₂)) E)
    (hR : ∀ i m σ, I i m σ → R σ)
    (step : ∀ i y m σ it c, (∀ f m, c ≠ .fr f m) → vs[i]? = some y → I i m σ → ∃ m', Sto m x y m' ∧ Es B ((it, c) :: φ) A f m' body σ (Turn Q (I (i + 1))) E)
    (done : ∀ m σ, I vs.length m σ → Q .next m σ)
    (hs : ∀ x, foldedSetIterable iter f.env x = pure x := by intro _; rfl) :
    Ex B φ A f m (.For (.Name x xp) iter body [] pos) σ Q E :=
  Ex.forG I hE h hR (fun i y m σ it c hc hy hI v hv => by
    obtain ⟨m', h1, h2⟩ := step i y m σ it c hc hy hI
    subst hv
    exact fun s F S => wpAny_assign_Name (X.stoLoc h1 h2 s F S)) done hs (fun _ _ => rfl)
/-- the same, x a cell -/
theorem Ex.forC {x : Str} {xp : Pos} {iter : Expr} {body : List Stmt} {pos : Pos} {vs : List Val} {R : Sig → Prop} (I : Nat → LM → Sig → Prop) (hE : PassesOwn (M0 B.w) A f.env E)
    (h : Ev B φ A f m iter σ (fun v σ₁ => It B ((f.env.locals, .fr f m) :: φ) A v σ₁ vs R (fun σ₂ => I 0 m σ₂)) E)
    (hR : ∀ i m σ, I i m σ → R σ)
    (step : ∀ i y m σ it c, (∀ f m, c ≠ .fr f m) → vs[i]? = some y → I i m σ → ∃ a o, (x, a) ∈ f.cells ∧ σ a = some (.cel o) ∧ Es B ((it, c) :: φ) A f m body (σ.upd a (.cel (some y))) (Turn Q (I (i + 1))) E)
    (done : ∀ m σ, I vs.length m σ → Q .next m σ)
    (hs : ∀ x, foldedSetIterable iter f.env x = pure x := by intro _; rfl) :
    Ex B φ A f m (.For (.Name x xp) iter body [] pos) σ Q E :=
  Ex.forG I hE h hR (fun i y m σ it c hc hy hI v hv => by
    obtain ⟨a, o, h1, h2, h3⟩ := step i y m σ it c hc hy hI
    subst hv
    exact fun s F S => wpAny_assign_Name (X.stoCel h1 h2 h3 s F S)) done hs (fun _ _ => rfl)
/-- while -/
theorem Ex.while {test : Expr} {body : List Stmt} {pos : Pos} (I : Nat → LM → Sig → Prop) (n : Nat) (hI : I n m σ) (hE : PassesOwn (M0 B.w) A f.env E)
    (turn : ∀ n m σ, I n m σ → Bt B φ A f m test σ (fun b σ₁ => (b = true → Es B φ A f m body σ₁ (Turn Q (fun m' σ' => ∃ k, k < n ∧ I k m' σ')) E) ∧ (b = false → Q .next m σ₁)) E) :
    Ex B φ A f m (.While test body [] pos) σ Q E := fun s F S => by
  refine wpAny_While (codeAny_whileLoop (fun n s => ∃ m σ, St B ((f.env.locals, .fr f m) :: φ) σ s ∧ I n m σ) ?_ n ⟨m, σ, S, hI⟩)
  rintro n s₁ ⟨m₁, σ₁, S₁, h₁⟩
  refine wpAny_passesOwn hE (wpAny_mono (turn n m₁ σ₁ h₁ s₁ F.turn S₁) (fun b s₂ ⟨σ₂, S₂, h₂⟩ => ?_) fun _ _ e => e)
  cases b with
  | true =>
    refine wpAny_passesOwn hE (wpAny_mono (h₂.1 rfl s₂ F.turn S₂) (fun r s₃ ⟨m₃, σ₃, S₃, h₃⟩ => ?_) fun _ _ e => e)
    cases r with
    | next => obtain ⟨k, hk, hI⟩ := h₃; exact ⟨k, hk, m₃, σ₃, S₃, hI⟩
    | cont => obtain ⟨k, hk, hI⟩ := h₃; exact ⟨k, hk, m₃, σ₃, S₃, hI⟩
    | brk => exact ⟨m₃, σ₃, S₃, h₃⟩
    | ret v => exact ⟨m₃, σ₃, S₃, h₃⟩
  | false => exact wpAny_execs_nil ⟨m₁, σ₂, S₂, h₂.2 rfl⟩
end
end Mine
end
section
open PySem PySem.W PyProof.Rows
set_option maxRecDepth 100000
set_option Elab.async false
set_option linter.unusedVariables false
namespace Mine
/-! ### frames with cells -/
noncomputable def cellNames (names : List (Str × NameKind)) : List Str := names.filterMap fun x => if x.2 == .cell then some x.1 else none
noncomputable def newCs : List Addr → Sig → Sig
  | [], σ => σ
  | a :: r, σ => newCs r (σ.upd a (.cel none))
noncomputable def freshCs : List Addr → Sig → Prop
  | [], _ => True
  | a :: r, σ => σ a = none ∧ freshCs r (σ.upd a (.cel none))
theorem cells_T {B : Bd} {φ : Phi} {M : Model} {A : Around} {E : Value → Shared → Prop} (f : Str × NameKind → List (Str × Addr) → Sem (ForInStep (List (Str × Addr))))
    (hf : ∀ name kind cells, f (name, kind) cells = if kind == .cell then (do let a ← alloc { cls := .type "cell", data := .cell none }; pure (.yield ((name, a) :: cells))) else pure (.yield cells)) :
    ∀ (names : List (Str × NameKind)) (acc : List (Str × Addr)) (σ : Sig) (s : Shared) (Q : List (Str × Addr) → Shared → Prop), St B φ σ s →
      (∀ as s', as.length = (cellNames names).length → freshCs as σ → St B φ (newCs as σ) s' → Q (((cellNames names).zip as).reverse ++ acc) s') → wpAny M A (forIn names acc f) Q E s
  | [], acc, σ, s, Q, S, h => by rw [List.forIn_nil]; exact wpAny_pure (h [] s rfl trivial S)
  | (name, kind) :: r, acc, σ, s, Q, S, h => by
    rw [List.forIn_cons, hf]
    by_cases hk : (kind == NameKind.cell) = true
    · rw [if_pos hk]
      have e : cellNames ((name, kind) :: r) = name :: cellNames r := by unfold cellNames; rw [List.filterMap_cons]; simp [hk]
      rw [e] at h
      refine wpAny_bind (wpAny_bind (wpAny_alloc (wpAny_pure ?_)))
      have S₁ := S.alloc (c := .cel none) (tk := s.toks) (fun b o e => Heap.get?_push_of_some { cls := .type "cell", data := .cell none } e) ⟨Option.none, ⟨_, Heap.get?_push_size _ rfl, rfl⟩, rfl⟩
      refine cells_T f hf r _ _ _ Q S₁ fun as s' hl hfr S' => ?_
      have := h (s.heap.objs.size :: as) s' (by simp [hl]) ⟨S.fresh.1, hfr⟩ S'
      simpa [List.zip_cons_cons] using this
    · rw [if_neg hk]
      have e : cellNames ((name, kind) :: r) = cellNames r := by unfold cellNames; rw [List.filterMap_cons]; simp [hk]
      rw [e] at h
      exact wpAny_bind (wpAny_pure (cells_T f hf r _ _ _ Q S h))
/-- the parameters bound one after the other -/
noncomputable def BindK (cells : List (Str × Addr)) (K : LM → Sig → Prop) : List (Str × Val) → LM → Sig → Prop
  | [], m, σ => K m σ
  | (x, v) :: r, m, σ => (∃ m', Sto m x v m' ∧ BindK cells K r m' σ) ∨ ∃ c o, (x, c) ∈ cells ∧ σ c = some (.cel o) ∧ BindK cells K r m (σ.upd c (.cel (some v)))
theorem binds_T {B : Bd} {φ : Phi} {A : Around} {E : Value → Shared → Prop} {f : Fm} {α : Type} (g : Str × Value → PUnit → Sem (ForInStep PUnit)) (hg : ∀ n v u, g (n, v) u = (do storeName f.env n v; pure (.yield ⟨⟩))) :
    ∀ (binds : List (Str × Value)) (m : LM) (σ : Sig) (s : Shared) (Q : PUnit → Shared → Prop) (K : LM → Sig → Prop), FrOk A ((f.env.locals, .fr f m) :: φ) → St B ((f.env.locals, .fr f m) :: φ) σ s →
      BindK f.cells K (binds.map fun p => (p.1, er p.2)) m σ → (∀ m' σ' s', K m' σ' → St B ((f.env.locals, .fr f m') :: φ) σ' s' → Q ⟨⟩ s') → wpAny (M0 B.w) A (forIn binds ⟨⟩ g) Q E s
  | [], m, σ, s, Q, K, F, S, hb, h => by rw [List.forIn_nil]; exact wpAny_pure (h m σ s hb S)
  | (n, v) :: r, m, σ, s, Q, K, F, S, hb, h => by
    rw [List.forIn_cons, hg]
    refine wpAny_bind (wpAny_bind ?_)
    rcases hb with ⟨m', h1, h2⟩ | ⟨c, o, h1, h2, h3⟩
    · exact wpAny_mono (X.stoLoc (Q := fun _ m₁ σ₁ => m₁ = m' ∧ σ₁ = σ) (E := E) h1 ⟨rfl, rfl⟩ s F S) (fun _ s₁ ⟨m₁, σ₁, S₁, e1, e2⟩ => by
        subst e1 e2; exact wpAny_pure (binds_T (α := α) g hg r _ _ s₁ Q K F.turn S₁ h2 h)) fun _ _ e => e
    · exact wpAny_mono (X.stoCel (Q := fun _ m₁ σ₁ => m₁ = m ∧ σ₁ = σ.upd c (.cel (some (er v)))) (E := E) h1 h2 ⟨rfl, rfl⟩ s F S) (fun _ s₁ ⟨m₁, σ₁, S₁, e1, e2⟩ => by
        subst e1 e2; exact wpAny_pure (binds_T (α := α) g hg r _ _ s₁ Q K F.turn S₁ h3 h)) fun _ _ e => e

theorem lookup_nodup : ∀ {l : List (Str × Addr)}, (l.map (·.1)).Nodup → ∀ p ∈ l, l.lookup p.1 = some p.2 := by
  intro l
  induction l with
  | nil => intro _ p hp; cases hp
  | cons a r ih =>
    intro nd p hp
    rw [List.map_cons, List.nodup_cons] at nd
    rw [List.lookup_cons]
    rcases List.mem_cons.mp hp with rfl | hp
    · simp
    · have : (p.1 == a.1) = false := by
        refine beq_eq_false_iff_ne.mpr fun e => nd.1 ?_
        rw [← e]; exact List.mem_map_of_mem hp
      rw [this]; exact ih nd.2 p hp
/-- the cells of a new frame: its own, and the closure's -/
noncomputable def ownCs (names : List (Str × NameKind)) (as : List Addr) (cl : List (Str × Addr)) : List (Str × Addr) := (cellNames names).zip as ++ cl
theorem ownCs_lookup {names : List (Str × NameKind)} {as : List Addr} {cl : List (Str × Addr)} (hl : as.length = (cellNames names).length) (nd : (cellNames names ++ cl.map (·.1)).Nodup) :
    ∀ p ∈ ownCs names as cl, (((cellNames names).zip as).reverse ++ cl).lookup p.1 = some p.2 := by
  intro p hp
  refine lookup_nodup ?_ p ?_
  · rw [List.map_append, List.map_reverse, List.map_fst_zip (by omega)]
    have := List.nodup_append.mp nd
    refine List.nodup_append.mpr ⟨List.pairwise_reverse.mpr (this.1.imp fun h => Ne.symm h), this.2.1, fun a ha b hb => this.2.2 a (List.mem_reverse.mp ha) b hb⟩
  · unfold ownCs at hp
    rcases List.mem_append.mp hp with h | h
    · exact List.mem_append_left _ (List.mem_reverse.mpr h)
    · exact List.mem_append_right _ h
theorem ownCs_keys {names : List (Str × NameKind)} {as : List Addr} {cl : List (Str × Addr)} (hl : as.length = (cellNames names).length) : (ownCs names as cl).map (·.1) = cellNames names ++ cl.map (·.1) := by
  unfold ownCs; rw [List.map_append, List.map_fst_zip (by omega)]

noncomputable def nones (ls : List Str) : LM := ls.map fun x => (x, Option.none)
theorem nones_keys {ls : List Str} : (nones ls).map (·.1) = ls := by unfold nones; rw [List.map_map]; show ls.map (fun x => x) = ls; simp

theorem newEnv_T {B : Bd} {φ : Phi} {A : Around} {σ : Sig} {s : Shared} {E : Value → Shared → Prop} {scope : Scope} {cl : List (Str × Addr)} {binds : List (Str × Value)} {qual : Str} {func : Option Addr} {code : Value} {around : Option Env} {gl : List (Str × Value)} {ls : List Str}
    {Q : Env → Shared → Prop} (F : ∀ L c, FrOk A ((L, c) :: φ)) (S : St B φ σ s) (hchk : fmChk scope ls (cellNames scope.names ++ cl.map (·.1)) (gl.map (·.1)) = true) (hnd : (cellNames scope.names ++ cl.map (·.1)).Nodup)
    (hgv : ∀ p ∈ gl, GVal B.w p.1 p.2) (hbi : ∀ e, around = some e → e.builtins = builtinsNs)
    (hQ : ∀ as, as.length = (cellNames scope.names).length → freshCs as σ → BindK (ownCs scope.names as cl) (fun m' σ' => ∀ s' env, env.locals = s.heap.objs.size → St B ((s.heap.objs.size, .fr ⟨env, ownCs scope.names as cl, gl⟩ m') :: φ) σ' s' →
        env = newEnv scope s.heap.objs.size mainGlobals (((cellNames scope.names).zip as).reverse ++ cl) qual func code around builtinsNs → Q env s') (binds.map fun p => (p.1, er p.2)) (nones ls) (newCs as σ)) :
    wpAny (M0 B.w) A (newFunctionEnv scope mainGlobals cl binds qual func code around builtinsNs) Q E s := by
  unfold newFunctionEnv
  refine wpAny_bind (wpAny_alloc ?_)
  generalize hcls : (if around.isSome = true then "dict" else "frame") = cls
  have S₁ := S.allocH (c := .obj { cls := .type cls, data := .dict #[] }) (tk := s.toks) (fun b o e => Heap.get?_push_of_some { cls := .type cls, data := .dict #[] } e) (Heap.get?_push_size _ rfl)
  refine wpAny_bind (cells_T _ (fun name kind cells => by cases hkc : kind == NameKind.cell <;> simp [hkc]) _ _ _ _ _ S₁ fun as s₂ hl hfr S₂ => ?_)
  generalize henv : newEnv scope s.heap.objs.size mainGlobals (((cellNames scope.names).zip as).reverse ++ cl) qual func code around builtinsNs = env
  have hloc : env.locals = s.heap.objs.size := by rw [← henv]; cases around <;> rfl
  have hcells : env.cells = ((cellNames scope.names).zip as).reverse ++ cl := by rw [← henv]; cases around <;> rfl
  have hok : FmOk B.w ⟨env, ownCs scope.names as cl, gl⟩ (nones ls) := by
    refine FmOk.of ?_ ?_ ?_ (fun p hp => by rw [hcells]; exact ownCs_lookup hl hnd p hp) hgv
    · rw [nones_keys, ownCs_keys hl]
      have : env.scope = scope := by rw [← henv]; cases around <;> rfl
      show fmChk env.scope _ _ _ = true
      rw [this]; exact hchk
    · show env.globals = _; rw [← henv]; cases around <;> rfl
    · show env.builtins = _; rw [← henv]; cases around with
      | none => rfl
      | some e => exact hbi e rfl
  have S₃ : St B ((env.locals, .fr ⟨env, ownCs scope.names as cl, gl⟩ (nones ls)) :: φ) (newCs as σ) s₂ := by
    obtain ⟨b, e, kp, d, f, g⟩ := S₂
    have h0 := f _ (.head _)
    refine ⟨b, e, kp, d, fun p hp => ?_, by rw [hloc]; exact g⟩
    rcases List.mem_cons.mp hp with rfl | hp
    · refine ⟨⟨rfl, hok, fun _ => none, ?_, fun p hp => ?_⟩, by rw [hloc]; exact h0.2⟩
      · have : s₂.heap.get? env.locals = some { cls := .type cls, data := .dict #[] } := by rw [hloc]; exact h0.1
        exact ⟨_, #[], _, this, rfl, (by intro e he; simp at he), fun _ => rfl⟩
      · obtain ⟨x, _, rfl⟩ := List.mem_map.mp hp
        rfl
    · exact f p (.tail _ hp)
  refine wpAny_bind (binds_T (α := Unit) (f := ⟨env, ownCs scope.names as cl, gl⟩) _ (fun n v u => ?_) binds (nones ls) (newCs as σ) s₂ _ _ (F _ _) S₃ (hQ as hl hfr) fun m' σ' s' hk S' => wpAny_pure ?_)
  · rw [← henv]; cases around <;> rfl
  · have := hk s' env hloc (by rw [← hloc]; exact S') henv.symm
    cases around <;> (subst henv; exact this)
end Mine
end
section
open PySem PySem.W PyProof.Rows
set_option maxRecDepth 100000
set_option Elab.async false
set_option linter.unusedVariables false
namespace Mine
section
variable {B : Bd} {φ : Phi} {A : Around} {σ : Sig} {E : Value → Shared → Prop}
/-- a call's code -/
noncomputable def Cd (B : Bd) (φ : Phi) (A : Around) (g : Value) (vs : List Val) (kw : List (Str × Val)) (σ : Sig) (Q : Val → Sig → Prop) (E : Value → Shared → Prop) : Prop :=
  ∀ us ks, us.map er = vs → ks.map (fun p : Str × Value => (p.1, er p.2)) = kw → ∀ s, FrOk A φ → St B φ σ s → codeAny (M0 B.w) A (.call g ⟨us, ks⟩) (fun r s' => match r with | .ok (.ret v) => ∃ σ', St B φ σ' s' ∧ Q (er v) σ' | .ok _ => False | .error e => E e s') s
theorem Cd.cl {g : Value} {vs : List Val} {kw : List (Str × Val)} {Q : Val → Sig → Prop} (h : Cd B φ A g vs kw σ Q E) : Cl B φ A g vs kw σ Q E := fun us ks hu hk s F S => wpAny_call (h us ks hu hk s F S)
/-- a def in general: own cells, a closure, any binding -/
theorem Cd.defC {a : Addr} {o : Obj} {fd : FuncData} {body : List Stmt} {vs : List Val} {kw : List (Str × Val)} {ls : List Str} {gl : List (Str × Value)} {Q : Val → Sig → Prop} {k : Nat}
    (hA : AOk A (k + 1)) (hfo : ∀ s, St B φ σ s → s.heap.get? a = some o ∧ s.heap.CodeRec fd.code fd.qualname) (hd : o.data = .func fd) (hb : fd.body = .stmts body)
    (hchk : fmChk fd.scope ls (cellNames fd.scope.names ++ fd.closure.map (·.1)) (gl.map (·.1)) = true) (hnd : (cellNames fd.scope.names ++ fd.closure.map (·.1)).Nodup) (hgv : ∀ p ∈ gl, GVal B.w p.1 p.2)
    (h : ∀ us ks, us.map er = vs → ks.map (fun p : Str × Value => (p.1, er p.2)) = kw → T B φ A.in1 (bindArgs fd ⟨us, ks⟩) σ (fun binds σ₁ => ∀ env A' E' as, AOk A' k → A' = A.deeper env → E' = ELeave B.w A' env E → PassesOwn (M0 B.w) A' env E' →
      as.length = (cellNames fd.scope.names).length → freshCs as σ₁ → BindK (ownCs fd.scope.names as fd.closure)
        (fun m σ' => Es B φ A' ⟨env, ownCs fd.scope.names as fd.closure, gl⟩ m body σ' (fun r _ σ'' => Q (retOf r) σ'') E') (binds.map fun p => (p.1, er p.2)) (nones ls) (newCs as σ₁)) E)
    (hgl : fd.globals = mainGlobals := by rfl) (hbl : fd.builtins = builtinsNs := by rfl)
    (hco : fd.scope.isCoroutine = false := by rfl) (hgen : fd.scope.isGenerator = false := by rfl) (hk : fd.scope.kind = .function := by rfl) :
    Cd B φ A (.ref a) vs kw σ Q E := fun us ks hu hks s F S => by
  refine (codeAny_call_function (by have := hA.d; show A.depth < 1000; omega) (hfo s S).1 hd hco hgen hb (hfo s S).2 (wpAny_mono (h us ks hu hks s F.in1 S) (fun binds s₁ ⟨σ₁, S₁, h₁⟩ => ?_) fun _ _ e => e))
  rw [hgl, hbl]
  refine newEnv_T (ls := ls) (gl := gl) (fun L c => FrOk.cons F.in1) S₁ hchk hnd hgv (fun e he => by cases he) fun as hl hfr => ?_
  generalize henv : newEnv fd.scope s₁.heap.objs.size mainGlobals (((cellNames fd.scope.names).zip as).reverse ++ fd.closure) (fd.qualname ++ ".<locals>.") (some a) fd.code none builtinsNs = env₀
  have hloc₀ : env₀.locals = s₁.heap.objs.size := by rw [← henv]; rfl
  have hscope₀ : env₀.scope = fd.scope := by rw [← henv]; rfl
  have hframe₀ : env₀.frame = some s₁.heap.objs.size := by rw [← henv]; rfl
  have h₂ := h₁ env₀ (A.deeper env₀) (ELeave B.w (A.deeper env₀) env₀ E) as (hA.deeper (Nat.le_refl _)) rfl rfl ELeave.passes hl hfr
  -- carry the triple over to what the frame asks
  have key : ∀ (bs : List (Str × Val)) (m : LM) (τ : Sig) (K K' : LM → Sig → Prop), (∀ m τ, K m τ → K' m τ) → BindK (ownCs fd.scope.names as fd.closure) K bs m τ → BindK (ownCs fd.scope.names as fd.closure) K' bs m τ := by
    intro bs
    induction bs with
    | nil => intro m τ K K' i hh; exact i _ _ hh
    | cons p r ih =>
      intro m τ K K' i hh
      rcases hh with ⟨m', a1, a2⟩ | ⟨c, o, a1, a2, a3⟩
      · exact .inl ⟨m', a1, ih _ _ _ _ i a2⟩
      · exact .inr ⟨c, o, a1, a2, ih _ _ _ _ i a3⟩
  refine key _ _ _ _ _ (fun m τ hEs s₂ env hloc S₂ he => ?_) h₂
  subst he
  refine ⟨S₂.drop.nolim, codeAny_func ?_⟩
  subst henv
  refine wpAny_mono (hEs s₂ (F.deeper (by rw [hscope₀, hk]; decide) (by rw [hframe₀, hloc₀])) (by rw [hloc₀]; exact S₂)) (fun r s' hr => ?_) fun _ _ e => e
  obtain ⟨m', σ', S'', q⟩ := hr
  refine ⟨σ', S''.drop, ?_⟩
  cases r <;> exact q
theorem Cl.defC {a : Addr} {o : Obj} {fd : FuncData} {body : List Stmt} {vs : List Val} {kw : List (Str × Val)} {ls : List Str} {gl : List (Str × Value)} {Q : Val → Sig → Prop} {k : Nat}
    (hA : AOk A (k + 1)) (hfo : ∀ s, St B φ σ s → s.heap.get? a = some o ∧ s.heap.CodeRec fd.code fd.qualname) (hd : o.data = .func fd) (hb : fd.body = .stmts body)
    (hchk : fmChk fd.scope ls (cellNames fd.scope.names ++ fd.closure.map (·.1)) (gl.map (·.1)) = true) (hnd : (cellNames fd.scope.names ++ fd.closure.map (·.1)).Nodup) (hgv : ∀ p ∈ gl, GVal B.w p.1 p.2)
    (h : ∀ us ks, us.map er = vs → ks.map (fun p : Str × Value => (p.1, er p.2)) = kw → T B φ A.in1 (bindArgs fd ⟨us, ks⟩) σ (fun binds σ₁ => ∀ env A' E' as, AOk A' k → A' = A.deeper env → E' = ELeave B.w A' env E → PassesOwn (M0 B.w) A' env E' →
      as.length = (cellNames fd.scope.names).length → freshCs as σ₁ → BindK (ownCs fd.scope.names as fd.closure)
        (fun m σ' => Es B φ A' ⟨env, ownCs fd.scope.names as fd.closure, gl⟩ m body σ' (fun r _ σ'' => Q (retOf r) σ'') E') (binds.map fun p => (p.1, er p.2)) (nones ls) (newCs as σ₁)) E)
    (hgl : fd.globals = mainGlobals := by rfl) (hbl : fd.builtins = builtinsNs := by rfl)
    (hco : fd.scope.isCoroutine = false := by rfl) (hgen : fd.scope.isGenerator = false := by rfl) (hk : fd.scope.kind = .function := by rfl) :
    Cl B φ A (.ref a) vs kw σ Q E := (Cd.defC hA hfo hd hb hchk hnd hgv h hgl hbl hco hgen hk).cl
end
end Mine
end
section
open PySem PySem.W PyProof.Rows
set_option maxRecDepth 100000
set_option Elab.async false
set_option linter.unusedVariables false
namespace Mine
theorem St.perm {B : Bd} {φ ψ : Phi} {σ : Sig} {s : Shared} (S : St B φ σ s) (h : φ.Perm ψ) : St B ψ σ s := by
  obtain ⟨b, e, kp, d, f, g⟩ := S
  exact ⟨b, e, kp, d, fun p hp => f p (h.mem_iff.mpr hp), (h.map _).nodup_iff.mp g⟩
theorem FrOk.pm {A : Around} {φ ψ : Phi} (h : φ.Perm ψ) (F : FrOk A φ) : FrOk A ψ := F.perm fun _ hp => h.mem_iff.mp hp
theorem perm3 {a b c : Addr × Cell} {φ : Phi} : (a :: b :: c :: φ).Perm (c :: a :: b :: φ) := List.perm_middle (l₁ := [a, b])
theorem perm3' {a b c : Addr × Cell} {φ : Phi} : (c :: a :: b :: φ).Perm (a :: b :: c :: φ) := perm3.symm

/-! ### the scopes of comprehensions -/
theorem lookup_relabel {scope : Scope} {env : Env} {x : Str} : (relabel scope env).names.lookup x = (scope.names.lookup x).map fun k => if (k == .free && env.scope.kind == .function && env.kindOf x == some .cell) then .cell else k := by
  unfold relabel
  dsimp only
  generalize scope.names = l
  induction l with
  | nil => rfl
  | cons p r ih =>
    obtain ⟨n, k⟩ := p
    rw [List.map_cons]
    cases hx : x == n with
    | true =>
      have e : x = n := by simpa using hx
      subst e
      by_cases hc : (k == NameKind.free && env.scope.kind == .function && env.kindOf x == some .cell) = true
      · simp only [if_pos hc, List.lookup_cons, hx, Option.map_some]
      · simp only [if_neg hc, List.lookup_cons, hx, Option.map_some]
    | false =>
      by_cases hc : (k == NameKind.free && env.scope.kind == .function && env.kindOf n == some .cell) = true
      · simp only [if_pos hc, List.lookup_cons, hx]; exact ih
      · simp only [if_neg hc, List.lookup_cons, hx]; exact ih
theorem FmOk.relabel {w : World} {env' env : Env} {scope : Scope} {fc fc' : List (Str × Addr)} {gl : List (Str × Value)} {m : LM} (h : FmOk w ⟨env', fc, gl⟩ m) (hs : env'.scope = scope) (hf : ∀ p ∈ fc', p ∈ fc) : FmOk w ⟨{ env' with scope := PySem.relabel scope env }, fc', gl⟩ m := by
  obtain ⟨h1, h2, h3, h4, h5, h6, h7, h8⟩ := h
  have kd : ∀ x, Env.kindOf { env' with scope := PySem.relabel scope env } x = (env'.kindOf x).map fun k => if (k == .free && env.scope.kind == .function && env.kindOf x == some .cell) then .cell else k := fun x => by
    show (PySem.relabel scope env).names.lookup x = _
    rw [lookup_relabel, ← hs]; rfl
  refine ⟨?_, h2, h3, fun x hx => ?_, h5, fun p hp => ?_, fun p hp => ?_, h8.1, fun p hp => h8.2.1 p (hf p hp), h8.2.2⟩
  · show scope.kind = _; rw [← hs]; exact h1
  · rw [kd, h4 x hx]; rfl
  · have := h6 p (hf p hp)
    refine ⟨?_, this.2⟩
    rw [kd]
    rcases this.1 with e | ⟨e, e'⟩
    · dsimp only at e; rw [e]; exact .inl rfl
    · dsimp only at e; rw [e, Option.map_some]
      by_cases hc : (NameKind.free == NameKind.free && env.scope.kind == .function && env.kindOf p.1 == some .cell) = true
      · rw [if_pos hc]; exact .inl rfl
      · rw [if_neg hc]; exact .inr ⟨rfl, e'⟩
  · have := h7 p hp
    refine ⟨?_, this.2⟩
    rw [kd]
    have e := this.1
    dsimp only at e; rw [e]; rfl
noncomputable def frees (names : List (Str × NameKind)) : List Str := names.filterMap fun x => if x.2 == .free then some x.1 else none
theorem closureFor_is {scope : Scope} {env : Env} {fr : List (Str × Addr)} (h : frees scope.names = fr.map (·.1)) (hf : ∀ p ∈ fr, env.cells.lookup p.1 = some p.2) : closureFor scope env = pure fr.reverse := by
  unfold closureFor
  dsimp only
  have key : ∀ (names : List (Str × NameKind)) (fr acc : List (Str × Addr)), frees names = fr.map (·.1) → (∀ p ∈ fr, env.cells.lookup p.1 = some p.2) →
      (forIn names acc (fun x r => if (x.2 == NameKind.free) = true then (do let a ← cellOf env x.1; pure PUnit.unit; pure (ForInStep.yield ((x.1, a) :: r))) else (do pure PUnit.unit; pure (ForInStep.yield r))) : Sem (List (Str × Addr))) = pure (fr.reverse ++ acc) := by
    intro names
    induction names with
    | nil =>
      intro fr acc h _
      cases fr with
      | nil => rfl
      | cons _ _ => cases h
    | cons p r ih =>
      intro fr acc h hf
      rw [List.forIn_cons]
      by_cases hk : (p.2 == NameKind.free) = true
      · have e : frees (p :: r) = p.1 :: frees r := by unfold frees; rw [List.filterMap_cons]; simp [hk]
        rw [e] at h
        cases fr with
        | nil => cases h
        | cons q fr =>
          rw [List.map_cons, List.cons.injEq] at h
          rw [if_pos hk]
          have hc : cellOf env p.1 = pure q.2 := by unfold cellOf; rw [h.1, hf q (.head _)]
          rw [hc]
          show (forIn r ((p.1, q.2) :: acc) _ : Sem _) = _
          rw [ih fr _ h.2 (fun x hx => hf x (.tail _ hx)), h.1]
          simp
      · have e : frees (p :: r) = frees r := by unfold frees; rw [List.filterMap_cons]; simp [hk]
        rw [e] at h
        rw [if_neg hk]
        show (forIn r acc _ : Sem _) = _
        exact ih fr acc h hf
  have := key scope.names fr [] h hf
  rw [List.append_nil] at this
  show (forIn scope.names [] _ >>= pure : Sem _) = _
  exact (congrArg (· >>= pure) this).trans rfl
end Mine
end
section
open PySem PySem.W PyProof.Rows
set_option maxRecDepth 100000
set_option Elab.async false
set_option linter.unusedVariables false
namespace Mine
section
variable {B : Bd} {φ : Phi} {A : Around} {f : Fm} {m : LM} {σ : Sig} {E : Value → Shared → Prop}
theorem append_hidden {acc : Addr} {ys : List Val} {s : Shared} {v : Value} {Q : Value → Shared → Prop} (S : St B ((acc, .list ys) :: φ) σ s) (hz : ys.length ≤ 100000)
    (h : ∀ r s', St B ((acc, .list (ys ++ [er v])) :: φ) σ s' → Q r s') : wpAny (M0 B.w) A (call (.builtin "list.append") [.ref acc, v]) Q E s := by
  obtain ⟨items, n, ho, e⟩ := (S.ph _ (.head _)).1
  subst e
  refine call_meets PySem.F.slot_list_append (T := "list") ⟨_, ho, rfl⟩ PySem.F.entry_list_append (PySem.F.args_list_append_2 _ _) (AutoListH.list_append_list_val_0 acc items n v (big_le (by simpa using hz))) ⟨ho, h _ _ (S.head (c' := .list (items.toList.map er ++ [er v])) (fun b o hb e => (Heap.get?_update_ne _ _ _ _ hb).trans e) ?_)⟩
  exact ⟨_, _, PySem.IsL.update ho (fun y => y.push v), by rw [Array.toList_push, List.map_append]; rfl⟩
/-- the tests of a generator: none or one -/
noncomputable def Ifs (B : Bd) (φ : Phi) (A : Around) (f : Fm) (m : LM) (o : Option Expr) (σ : Sig) (Q : Bool → Sig → Prop) (E : Value → Shared → Prop) : Prop :=
  match o with
  | none => Q true σ
  | some c => Bt B φ A f m c σ Q E
theorem ifs_T {o : Option Expr} {s : Shared} {Q : Bool → Sig → Prop} {Q' : Bool → Shared → Prop} (h : Ifs B φ A f m o σ Q E) (F : FrOk A ((f.env.locals, .fr f m) :: φ)) (S : St B ((f.env.locals, .fr f m) :: φ) σ s)
    (k : ∀ b σ' s', St B ((f.env.locals, .fr f m) :: φ) σ' s' → Q b σ' → Q' b s') :
    wpAny (M0 B.w) A (forIn o.toList true fun c r => if r = true then do let ok ← isTrue c f.env (eval c f.env); pure (ForInStep.yield ok) else pure (ForInStep.yield r)) Q' E s := by
  cases o with
  | none => exact wpAny_pure (k _ _ _ S h)
  | some c =>
    show wpAny _ _ (forIn [c] true _) _ _ _
    rw [List.forIn_cons]
    refine wpAny_bind ?_
    rw [if_pos rfl]
    exact wpAny_bind (wpAny_mono (h s F S) (fun b s' ⟨σ', S', q⟩ => wpAny_pure (by show wpAny _ _ (pure b) _ _ _; exact wpAny_pure (k _ _ _ S' q))) fun _ _ e => e)

/-- the last generator's loop -/
theorem loopLast {elt iter target : Expr} {o : Option Expr} {gens : List Comprehension} {scope : Scope} {pos : Pos} {d : Nat} (hg : gens[d]? = some ⟨target, iter, o.toList, 0⟩) (hl : gens[d + 1]? = none)
    {vs : List Val} {c : Nat → Cell} {R : Sig → Prop} {it acc : Addr} {Rr : Result → Shared → Prop} {s : Shared} {ys : List Val} (G : Gang B A it c vs R) (I : Nat → List Val → LM → Sig → Prop)
    (hR : ∀ i ys m σ, I i ys m σ → R σ) (hb : ∀ i ys m σ, I i ys m σ → ys.length ≤ 10000)
    (step : ∀ i y ys m σ it c acc E, vs[i]? = some y → I i ys m σ → ∀ v, er v = y → X B ((it, c) :: (acc, .list ys) :: φ) A f m (assign target f.env v) σ (fun _ m' σ' =>
      Ifs B ((it, c) :: (acc, .list ys) :: φ) A f m' o σ' (fun b σ₂ => (b = true → Ev B ((it, c) :: (acc, .list ys) :: φ) A f m' elt σ₂ (fun u σ₃ => I (i + 1) (ys ++ [u]) m' σ₃) E) ∧ (b = false → I (i + 1) ys m' σ₂)) E) E)
    (F : FrOk A ((f.env.locals, .fr f m) :: φ)) (S : St B ((it, c 0) :: (acc, .list ys) :: (f.env.locals, .fr f m) :: φ) σ s) (hI : I 0 ys m σ)
    (fin : ∀ s' ys m σ, I vs.length ys m σ → St B ((acc, .list ys) :: (f.env.locals, .fr f m) :: φ) σ s' → Rr (.ok .next) s')
    (ht : ∀ v, letOwnedTupleGo target (.ref it) v = pure () := by intro _; rfl) :
    codeAny (M0 B.w) A (.compLoop (.ListComp elt gens scope pos) d (.ref it) (.ref acc) f.env) Rr s := by
  refine codeAny_loop rfl (fun n s => ∃ i ys m σ, St B ((it, c i) :: (acc, .list ys) :: (f.env.locals, .fr f m) :: φ) σ s ∧ I i ys m σ ∧ i ≤ vs.length ∧ n = vs.length - i) ?_ (vs.length - 0) ⟨0, ys, m, σ, S, hI, Nat.zero_le _, rfl⟩
  rintro n s₁ ⟨i, ys₁, m₁, σ₁, S₁, hI₁, hi, rfl⟩
  show wpAny _ _ ((compTurn (.ListComp elt gens scope pos) d (.ref it) (.ref acc) f.env).onRaise (fun x => do noteFrame x f.env; theTreesLotGoes x)) _ _ _
  refine wpAny_noted ?_
  unfold compTurn
  simp only [hg, hl]
  have F₁ : FrOk A ((it, c i) :: (acc, .list ys₁) :: (f.env.locals, .fr f m₁) :: φ) := F.turn.cons.cons
  refine wpAny_bind (wpAny_standAt ?_)
  show wpAny _ _ (pyNext (.ref it) >>= _) _ _ _
  refine wpAny_bind ?_
  cases hv : vs[i]? with
  | none =>
    refine G.last _ σ₁ s₁ i _ _ F₁ S₁ (hR _ _ _ _ hI₁) hv fun s₂ S₂ => wpAny_pure (fin s₂ ys₁ m₁ σ₁ ?_ S₂)
    have : i = vs.length := Nat.le_antisymm hi (by simpa using hv)
    exact this ▸ hI₁
  | some y =>
    have hlt : i < vs.length := (List.getElem?_eq_some_iff.mp hv).1
    refine G.item _ σ₁ s₁ i y _ _ S₁ (hR _ _ _ _ hI₁) hv fun v s₂ hv' S₂ => ?_
    have F₂ : ∀ m' : LM, FrOk A ((f.env.locals, .fr f m') :: (it, c (i + 1)) :: (acc, .list ys₁) :: φ) := fun m' => ((F.turn (m' := m')).cons (p := (acc, .list ys₁))).cons (p := (it, c (i + 1))) |>.pm perm3
    refine wpAny_bind (wpAny_of_eq (ht v) ?_)
    refine wpAny_bind (wpAny_mono (step i y ys₁ m₁ σ₁ it (c (i + 1)) acc _ hv hI₁ v hv' s₂ (F₂ _) (S₂.perm perm3)) (fun _ s₃ ⟨m₃, σ₃, S₃, h₃⟩ => ?_) fun _ _ e => e)
    refine wpAny_bind (ifs_T h₃ (F₂ _) S₃ fun b σ₄ s₄ S₄ h₄ => ?_)
    cases b with
    | true =>
      refine wpAny_bind (wpAny_bind (wpAny_mono (h₄.1 rfl s₄ (F₂ _) S₄) (fun u s₅ ⟨σ₅, S₅, h₅⟩ => wpAny_bind (append_hidden (S₅.perm (by exact List.perm_middle (l₁ := [_, _]))) (Nat.le_trans (hb _ _ _ _ hI₁) (by decide)) fun r s₆ S₆ => wpAny_pure (wpAny_pure ?_))) fun _ _ e => e))
      exact ⟨rfl, vs.length - (i + 1), by omega, i + 1, _, m₃, σ₅, S₆.perm perm3, h₅, hlt, rfl⟩
    | false =>
      exact wpAny_bind (wpAny_pure (wpAny_pure ⟨rfl, vs.length - (i + 1), by omega, i + 1, ys₁, m₃, σ₄, S₄.perm perm3', h₄.2 rfl, hlt, rfl⟩))
end
end Mine
end
section
open PySem PySem.W PyProof.Rows
set_option maxRecDepth 100000
set_option Elab.async false
set_option linter.unusedVariables false
namespace Mine
section
variable {B : Bd} {φ : Phi} {A : Around} {f : Fm} {m : LM} {σ : Sig} {E : Value → Shared → Prop}
theorem compStart_T {elt target iter : Expr} {ifs : List Expr} {gens : List Comprehension} {scope : Scope} {pos : Pos} {d : Nat} {it acc : Value} {env : Env} {R : Result → Shared → Prop} {s : Shared} (hg : gens[d]? = some ⟨target, iter, ifs, 0⟩)
    (h0 : codeAny (M0 B.w) A (.compLoop (.ListComp elt gens scope pos) d it acc env) R s)
    (h : wpAny (M0 B.w) A (pyIter it) (fun it' s' => codeAny (M0 B.w) A (.compLoop (.ListComp elt gens scope pos) d it' acc env) R s') (notedBy (M0 B.w) A env fun x s' => R (.error x) s') s) :
    codeAny (M0 B.w) A (.compStart (.ListComp elt gens scope pos) d it acc env) R s := by
  refine codeAny_of_tree ?_
  show wpAny _ _ ((compStart (.ListComp elt gens scope pos) d it acc env).onRaise (fun x => do noteFrame x env; standAt theWindowsPlace)) _ _ s
  refine wpAny_notedAt ?_
  unfold compStart
  have hc : clausesOf (.ListComp elt gens scope pos) = gens := rfl
  rw [hc, hg]
  show wpAny _ _ (ask >>= _) _ _ s
  refine wpAny_bind (wpAny_askSetting (wpAny_ite ?_))
  split
  · first
      | exact wpAny_bind (wpAny_pure (wpAny_pure (And.intro rfl h0)))
      | exact wpAny_pure (And.intro rfl h0)
  · first
      | exact wpAny_bind (wpAny_rule (wpAny_bind (wpAny_standAt (wpAny_bind (wpAny_mono h (fun it' s' h' => wpAny_pure (And.intro rfl h')) fun _ _ x => x)))))
      | (refine wpAny_bind (wpAny_rule ?_); show wpAny _ _ (standAt iter.pos >>= _) _ _ s; exact wpAny_bind (wpAny_standAt (wpAny_bind (wpAny_mono h (fun it' s' h' => wpAny_pure (And.intro rfl h')) fun _ _ x => x))))

/-- two generators -/
theorem loopTwo {elt target0 iter0 target1 iter1 : Expr} {o : Option Expr} {scope : Scope} {pos : Pos} {vs vs1 : List Val} {c : Nat → Cell} {R R1 : Sig → Prop} {it acc : Addr} {Rr : Result → Shared → Prop} {s : Shared} {ys : List Val}
    (G : Gang B A it c vs R) (I : Nat → List Val → LM → Sig → Prop) (J : Nat → Nat → List Val → LM → Sig → Prop)
    (hR : ∀ i ys m σ, I i ys m σ → R σ) (hR1 : ∀ i j ys m σ, J i j ys m σ → R1 σ) (hb : ∀ i j ys m σ, J i j ys m σ → ys.length ≤ 10000)
    (step0 : ∀ i y ys m σ it c acc E, vs[i]? = some y → I i ys m σ → ∀ v, er v = y → X B ((it, c) :: (acc, .list ys) :: φ) A f m (assign target0 f.env v) σ (fun _ m' σ' =>
      Ev B ((it, c) :: (acc, .list ys) :: φ) A f m' iter1 σ' (fun w σ₂ => It B ((f.env.locals, .fr f m') :: (it, c) :: (acc, .list ys) :: φ) A w σ₂ vs1 R1 (fun σ₃ => J i 0 ys m' σ₃)) E) E)
    (step1 : ∀ i j y ys m σ it c acc φ' E, vs1[j]? = some y → J i j ys m σ → ∀ v, er v = y → X B ((it, c) :: (acc, .list ys) :: φ') A f m (assign target1 f.env v) σ (fun _ m' σ' =>
      Ifs B ((it, c) :: (acc, .list ys) :: φ') A f m' o σ' (fun b σ₂ => (b = true → Ev B ((it, c) :: (acc, .list ys) :: φ') A f m' elt σ₂ (fun u σ₃ => J i (j + 1) (ys ++ [u]) m' σ₃) E) ∧ (b = false → J i (j + 1) ys m' σ₂)) E) E)
    (nxt : ∀ i ys m σ, J i vs1.length ys m σ → I (i + 1) ys m σ)
    (F : FrOk A ((f.env.locals, .fr f m) :: φ)) (S : St B ((it, c 0) :: (acc, .list ys) :: (f.env.locals, .fr f m) :: φ) σ s) (hI : I 0 ys m σ)
    (fin : ∀ s' ys m σ, I vs.length ys m σ → St B ((acc, .list ys) :: (f.env.locals, .fr f m) :: φ) σ s' → Rr (.ok .next) s')
    (ht : ∀ it v, letOwnedTupleGo target0 it v = pure () := by intro _ _; rfl) (ht1 : ∀ it v, letOwnedTupleGo target1 it v = pure () := by intro _ _; rfl)
    (hs : ∀ x, foldedSetIterable iter1 f.env x = pure x := by intro _; rfl) :
    codeAny (M0 B.w) A (.compLoop (.ListComp elt [⟨target0, iter0, [], 0⟩, ⟨target1, iter1, o.toList, 0⟩] scope pos) 0 (.ref it) (.ref acc) f.env) Rr s := by
  refine codeAny_loop rfl (fun n s => ∃ i ys m σ, St B ((it, c i) :: (acc, .list ys) :: (f.env.locals, .fr f m) :: φ) σ s ∧ I i ys m σ ∧ i ≤ vs.length ∧ n = vs.length - i) ?_ (vs.length - 0) ⟨0, ys, m, σ, S, hI, Nat.zero_le _, rfl⟩
  rintro n s₁ ⟨i, ys₁, m₁, σ₁, S₁, hI₁, hi, rfl⟩
  show wpAny _ _ ((compTurn (.ListComp elt [⟨target0, iter0, [], 0⟩, ⟨target1, iter1, o.toList, 0⟩] scope pos) 0 (.ref it) (.ref acc) f.env).onRaise (fun x => do noteFrame x f.env; theTreesLotGoes x)) _ _ _
  refine wpAny_noted ?_
  unfold compTurn
  have F₁ : FrOk A ((it, c i) :: (acc, .list ys₁) :: (f.env.locals, .fr f m₁) :: φ) := F.turn.cons.cons
  refine wpAny_bind (wpAny_standAt ?_)
  show wpAny _ _ (pyNext (.ref it) >>= _) _ _ _
  refine wpAny_bind ?_
  cases hv : vs[i]? with
  | none =>
    refine G.last _ σ₁ s₁ i _ _ F₁ S₁ (hR _ _ _ _ hI₁) hv fun s₂ S₂ => wpAny_pure (fin s₂ ys₁ m₁ σ₁ ?_ S₂)
    have : i = vs.length := Nat.le_antisymm hi (by simpa using hv)
    exact this ▸ hI₁
  | some y =>
    have hlt : i < vs.length := (List.getElem?_eq_some_iff.mp hv).1
    refine G.item _ σ₁ s₁ i y _ _ S₁ (hR _ _ _ _ hI₁) hv fun v s₂ hv' S₂ => ?_
    have F₂ : ∀ m' : LM, FrOk A ((f.env.locals, .fr f m') :: (it, c (i + 1)) :: (acc, .list ys₁) :: φ) := fun m' => ((F.turn (m' := m')).cons (p := (acc, .list ys₁))).cons (p := (it, c (i + 1))) |>.pm perm3
    refine wpAny_bind (wpAny_of_eq (ht _ v) ?_)
    refine wpAny_bind (wpAny_mono (step0 i y ys₁ m₁ σ₁ it (c (i + 1)) acc _ hv hI₁ v hv' s₂ (F₂ _) (S₂.perm perm3)) (fun _ s₃ ⟨m₃, σ₃, S₃, h₃⟩ => ?_) fun _ _ e => e)
    show wpAny _ _ (eval iter1 f.env >>= _) _ _ _
    refine wpAny_bind (wpAny_mono (h₃ s₃ (F₂ _) S₃) (fun w s₄ ⟨σ₄, S₄, h₄⟩ => ?_) fun _ _ e => e)
    refine wpAny_bind (wpAny_standAt ?_)
    show wpAny _ _ (foldedSetIterable iter1 f.env w >>= _) _ _ _
    refine wpAny_bind (wpAny_of_eq (hs w) ?_)
    show wpAny _ _ (holding [w] (pyIter w) >>= _) _ _ _
    refine wpAny_bind (wpAny_holding (h₄ w s₄ _ _ rfl (F₂ _) S₄ fun it1 c1 σ₅ s₅ S₅ hJ G1 => ?_))
    refine wpAny_bind (wpAny_runOwn ?_)
    have S₆ : St B ((it1, c1 0) :: (acc, .list ys₁) :: (f.env.locals, .fr f m₃) :: (it, c (i + 1)) :: φ) σ₅ s₅ := S₅.perm (List.Perm.cons _ (by exact List.perm_middle (l₁ := [_, _])))
    have F₃ : FrOk A ((f.env.locals, .fr f m₃) :: (it, c (i + 1)) :: φ) := ((F.turn (m' := m₃)).cons (p := (it, c (i + 1)))).pm (List.Perm.swap _ _ _)
    refine compStart_T (B := B) (target := target1) (iter := iter1) (ifs := o.toList) rfl (loopLast rfl rfl G1 (J i) (hR1 i) (hb i) (fun j y ys m σ it c acc E => step1 i j y ys m σ it c acc _ E) F₃ S₆ hJ (fun s₇ ys₇ m₇ σ₇ h₇ S₇ => ?_) (ht1 _)) (G1.self _ σ₅ s₅ 0 _ _ S₆ (loopLast rfl rfl G1 (J i) (hR1 i) (hb i) (fun j y ys m σ it c acc E => step1 i j y ys m σ it c acc _ E) F₃ S₆ hJ (fun s₇ ys₇ m₇ σ₇ h₇ S₇ => ?_) (ht1 _)))
    all_goals exact wpAny_pure ⟨rfl, vs.length - (i + 1), by omega, i + 1, ys₇, m₇, σ₇, S₇.perm (by exact List.perm_middle (l₁ := [_, _])), nxt _ _ _ _ h₇, hlt, rfl⟩
end
end Mine
end
section
open PySem PySem.W PyProof.Rows
set_option maxRecDepth 100000
set_option Elab.async false
set_option linter.unusedVariables false
namespace Mine
noncomputable def namesChk (names : List (Str × NameKind)) : Bool := names.all fun x => !(x.2 == .local) || names.lookup x.1 == some .local
/-- all that a comprehension's scope must bear -/
noncomputable def compChk (scope : Scope) (ls fs gs : List Str) : Bool := scope.kind == .function && namesChk scope.names && fmChk scope ls (cellNames scope.names ++ fs.reverse) gs && decide (cellNames scope.names ++ fs.reverse).Nodup && frees scope.names == fs
section
variable {B : Bd} {φ : Phi} {A : Around} {f : Fm} {m : LM} {σ : Sig} {E : Value → Shared → Prop}
/-- what a comprehension's loops must show -/
noncomputable def CompLoop (B : Bd) (φ : Phi) (A : Around) (elt : Expr) (gens : List Comprehension) (scope : Scope) (pos : Pos) (ls : List Str) (fr : List (Str × Addr)) (gl : List (Str × Value)) (vs : List Val) (R : Sig → Prop) (σ : Sig) (P : List Val → Sig → Prop) : Prop :=
  ∀ as, as.length = (cellNames scope.names).length → freshCs as σ → ∀ it c acc env s (Rr : Result → Shared → Prop), Gang B A it c vs R → FrOk A ((env.locals, .fr ⟨env, (cellNames scope.names).zip as ++ fr, gl⟩ (nones ls)) :: φ) →
    St B ((it, c 0) :: (acc, .list []) :: (env.locals, .fr ⟨env, (cellNames scope.names).zip as ++ fr, gl⟩ (nones ls)) :: φ) (newCs as σ) s →
    (∀ s' ys m' σ', P ys σ' → St B ((acc, .list ys) :: (env.locals, .fr ⟨env, (cellNames scope.names).zip as ++ fr, gl⟩ m') :: φ) σ' s' → Rr (.ok .next) s') →
    codeAny (M0 B.w) A (.compLoop (.ListComp elt gens scope pos) 0 (.ref it) (.ref acc) env) Rr s

theorem comp_T {elt target iter : Expr} {ifs : List Expr} {rest : List Comprehension} {scope : Scope} {pos p : Pos} {use : Option (Value → Sem Unit)} {ls : List Str} {fr : List (Str × Addr)} {gl : List (Str × Value)} {vs : List Val} {R : Sig → Prop} {P : List Val → Sig → Prop} {s : Shared} {Q : Value → Shared → Prop}
    (hchk : compChk scope ls (fr.map (·.1)) (gl.map (·.1)) = true) (hin : ∀ q ∈ fr, q ∈ f.cells) (hgv : ∀ q ∈ gl, GVal B.w q.1 q.2)
    (h : Ev B φ A f m iter σ (fun v σ₁ => It B ((f.env.locals, .fr f m) :: φ) A v σ₁ vs R (fun σ₂ => CompLoop B ((f.env.locals, .fr f m) :: φ) A elt (⟨target, iter, ifs, 0⟩ :: rest) scope pos ls fr gl vs R σ₂ P)) E)
    (F : FrOk A ((f.env.locals, .fr f m) :: φ)) (S : St B ((f.env.locals, .fr f m) :: φ) σ s)
    (fin : ∀ acc C c ys σ' s', P ys σ' → (∃ f' m', c = .fr f' m') → St B ((C, c) :: (acc, .list ys) :: (f.env.locals, .fr f m) :: φ) σ' s' →
      match use with
      | none => ∀ h', Heap.SameBut C s'.heap h' → Q (.ref acc) { s' with heap := h' }
      | some u => wpAny (M0 B.w) A (u (.ref acc)) (fun _ s'' => (∃ m, s''.heap.Ns C m) ∧ ∀ h', Heap.SameBut C s''.heap h' → Q .none { s'' with heap := h' }) E s')
    (hs : ∀ x, foldedSetIterable iter f.env x = pure x) :
    wpAny (M0 B.w) A (comprehension (.ListComp elt (⟨target, iter, ifs, 0⟩ :: rest) scope pos) scope f.env p (newList []) false (eval iter f.env) use) Q E s := by
  unfold compChk at hchk
  simp only [Bool.and_eq_true, beq_iff_eq, decide_eq_true_eq] at hchk
  obtain ⟨⟨⟨⟨hk, hn⟩, hf⟩, hnd⟩, hfrees⟩ := hchk
  have ok := (S.ph _ (.head _)).1.2.1
  have hclos : closureFor scope f.env = pure fr.reverse := closureFor_is hfrees fun q hq => (ok.cell q (hin q hq)).2
  have hnames : ∀ x ∈ scope.names, x.2 = .local → scope.names.lookup x.1 = some .local := fun x hx e => by
    unfold namesChk at hn
    have := List.all_eq_true.mp hn x hx
    rw [e] at this
    simpa using this
  have hglob : f.env.globals = mainGlobals := ok.glob
  have hbuil : f.env.builtins = builtinsNs := ok.bi
  refine wpAny_comprehension_free (cl := fr.reverse) rfl hs hclos hk hnames (wpAny_mono (h s F S) (fun xv s₁ ⟨σ₁, S₁, h₁⟩ => h₁ xv s₁ _ E rfl F S₁ fun it c σ₂ s₂ S₂ hL G => ?_) fun _ _ e => e)
  show wpAny _ _ (newList []) _ _ _
  unfold newList
  refine wpAny_newObj_type ?_ (by size_fits)
  rw [hglob]
  have S₃ := S₂.allocH (c := .list []) (tk := s₂.toks) (fun b o e => Heap.get?_push_of_some { cls := .type "list", dict := none, data := .seq ([] : List Value).toArray } e) ⟨_, _, Heap.get?_push_size _ rfl, rfl⟩
  generalize s₂.heap.objs.size = acc at S₃ ⊢
  generalize ({ s₂ with heap := s₂.heap.push { cls := .type "list", dict := none, data := .seq ([] : List Value).toArray } } : Shared) = s₃ at S₃ ⊢
  have hrev : fr.reverse.map (·.1) = (fr.map (·.1)).reverse := List.map_reverse ..
  refine newEnv_T (ls := ls) (gl := gl) (fun L c' => ?_) S₃ (by rw [hrev]; exact hf) (by rw [hrev]; exact hnd) hgv (fun e he => by cases he; exact hbuil) fun as hl hfr s₄ env hloc S₄ he => ?_
  · exact F.cons.cons.cons
  -- the frame's scope is renamed
  have S₅ : St B ((it, c 0) :: (acc, .list []) :: (env.locals, .fr ⟨{ env with scope := relabel scope f.env }, (cellNames scope.names).zip as ++ fr, gl⟩ (nones ls)) :: (f.env.locals, .fr f m) :: φ) (newCs as σ₂) s₄ := by
    rw [← hloc] at S₄
    have e1 := (S₄.ph _ (.head _)).1
    obtain ⟨l1, l2, mm, l3, l4⟩ := e1
    have l2' : FmOk B.w ⟨env, ownCs scope.names as fr.reverse, gl⟩ (nones ls) := l2
    have := S₄.head (c' := .fr ⟨{ env with scope := relabel scope f.env }, (cellNames scope.names).zip as ++ fr, gl⟩ (nones ls)) (h' := s₄.heap) (tk := s₄.toks) (fun _ _ _ e => e) ⟨l1, l2'.relabel (by rw [he]; rfl) (fun q hq => by
      unfold ownCs
      rcases List.mem_append.mp hq with h | h
      · exact List.mem_append_left _ h
      · exact List.mem_append_right _ (List.mem_reverse.mpr h)), mm, l3, l4⟩
    refine St.perm (S := this) ?_
    exact (List.Perm.cons _ (List.Perm.swap _ _ _)).trans ((List.Perm.swap _ _ _).trans (List.Perm.cons _ (List.Perm.swap _ _ _)))
  have F₅ : FrOk A ((env.locals, .fr ⟨{ env with scope := relabel scope f.env }, (cellNames scope.names).zip as ++ fr, gl⟩ (nones ls)) :: (f.env.locals, .fr f m) :: φ) := F.cons
  have run : ∀ it', it' = Value.ref it → codeAny (M0 B.w) A (.compLoop (.ListComp elt (⟨target, iter, ifs, 0⟩ :: rest) scope pos) 0 it' (.ref acc) { env with scope := relabel scope f.env }) (compPost (M0 B.w) A E use Q (.ref acc) env.locals) s₄ := by
    rintro _ rfl
    refine hL as hl hfr it c acc { env with scope := relabel scope f.env } s₄ _ G F₅ S₅ fun s₆ ys m₆ σ₆ hP S₆ => ?_
    have S₆' := S₆.swap
    have hns : ∃ m, s₆.heap.Ns env.locals m := let ⟨_, _, mm, h, _⟩ := (S₆'.ph _ (.head _)).1; ⟨mm, h⟩
    have := fin acc env.locals _ ys σ₆ s₆ hP ⟨_, _, rfl⟩ S₆'
    cases use with
    | none => obtain ⟨mm, hm⟩ := hns; exact ⟨mm, hm, this⟩
    | some u => exact wpAny_mono this (fun _ s'' ⟨⟨mm, hm⟩, hQ⟩ => ⟨mm, hm, hQ⟩) fun _ _ e => e
  exact compStart_T (B := B) (target := target) (iter := iter) (ifs := ifs) rfl (run _ rfl) (G.self _ _ s₄ 0 _ _ S₅ (run _ rfl))

theorem Ev.comp {elt target iter : Expr} {ifs : List Expr} {rest : List Comprehension} {scope : Scope} {pos : Pos} {ls : List Str} {fr : List (Str × Addr)} {gl : List (Str × Value)} {vs : List Val} {R : Sig → Prop} {P : List Val → Sig → Prop} {Q : Val → Sig → Prop}
    (hchk : compChk scope ls (fr.map (·.1)) (gl.map (·.1)) = true) (hin : ∀ q ∈ fr, q ∈ f.cells) (hgv : ∀ q ∈ gl, GVal B.w q.1 q.2)
    (h : Ev B φ A f m iter σ (fun v σ₁ => It B ((f.env.locals, .fr f m) :: φ) A v σ₁ vs R (fun σ₂ => CompLoop B ((f.env.locals, .fr f m) :: φ) A elt (⟨target, iter, ifs, 0⟩ :: rest) scope pos ls fr gl vs R σ₂ P)) E)
    (fin : ∀ ys σ' a, P ys σ' → σ' a = Option.none → Q (.ref a) (σ'.upd a (.list ys)))
    (hs : ∀ x, foldedSetIterable iter f.env x = pure x := by intro _; rfl) :
    Ev B φ A f m (.ListComp elt (⟨target, iter, ifs, 0⟩ :: rest) scope pos) σ Q E := fun s F S => by
  show wpAny _ _ (comprehension (.ListComp elt (⟨target, iter, ifs, 0⟩ :: rest) scope pos) scope f.env (firstIterPos (⟨target, iter, ifs, 0⟩ :: rest) pos) (newList []) false (eval iter f.env) Option.none) _ _ _
  refine comp_T (use := Option.none) hchk hin hgv h F S (fun acc C c ys σ' s' hP hC S' => ?_) hs
  intro h' hsame
  have S₁ := (S'.lose (h' := h') (tk := s'.toks) hsame.extBut).show
  exact ⟨_, S₁.1, fin ys σ' acc hP S₁.2⟩
/-- y = [..] where y is a local name on the same line: the stores are exchanged -/
theorem Ex.asgComp {elt target iter : Expr} {ifs : List Expr} {rest : List Comprehension} {scope : Scope} {y : Str} {yp pos spos : Pos} {ls : List Str} {fr : List (Str × Addr)} {gl : List (Str × Value)} {vs : List Val} {R : Sig → Prop} {P : List Val → Sig → Prop} {Q : Fl → LM → Sig → Prop}
    (hsw : swapsWith (.ListComp elt (⟨target, iter, ifs, 0⟩ :: rest) scope pos) (some (.Name y yp)) spos.line f.env = pure true)
    (hchk : compChk scope ls (fr.map (·.1)) (gl.map (·.1)) = true) (hin : ∀ q ∈ fr, q ∈ f.cells) (hgv : ∀ q ∈ gl, GVal B.w q.1 q.2)
    (h : Ev B φ A f m iter σ (fun v σ₁ => It B ((f.env.locals, .fr f m) :: φ) A v σ₁ vs R (fun σ₂ => CompLoop B ((f.env.locals, .fr f m) :: φ) A elt (⟨target, iter, ifs, 0⟩ :: rest) scope pos ls fr gl vs R σ₂ P)) E)
    (fin : ∀ ys σ' a, P ys σ' → σ' a = Option.none → ∃ m', Sto m y (.ref a) m' ∧ Q .next m' (σ'.upd a (.list ys)))
    (hs : ∀ x, foldedSetIterable iter f.env x = pure x := by intro _; rfl) :
    Ex B φ A f m (.Assign [.Name y yp] (.ListComp elt (⟨target, iter, ifs, 0⟩ :: rest) scope pos) spos) σ Q E := fun s F S => by
  rw [exec_Assign_Name_used _ _ _ _ hsw]
  refine wpAny_bind (wpAny_standAt (wpAny_bind ?_))
  show wpAny _ A (do let _ ← comprehension (.ListComp elt (⟨target, iter, ifs, 0⟩ :: rest) scope pos) scope f.env (firstIterPos (⟨target, iter, ifs, 0⟩ :: rest) pos) (newList []) false (eval iter f.env) (some (assign (.Name y yp) f.env))) _ _ s
  refine wpAny_bind (wpAny_mono (comp_T (use := some (assign (.Name y yp) f.env)) (Q := fun _ s' => ∃ m' σ', St B ((f.env.locals, .fr f m') :: φ) σ' s' ∧ Q .next m' σ') hchk hin hgv h F S (fun acc C c ys σ' s' hP hC S' => ?_) hs) (fun _ s' hq => wpAny_pure (wpAny_pure hq)) fun _ _ e => e)
  have hfresh : σ' acc = none := (S'.ph _ (.tail _ (.head _))).2.2.1
  obtain ⟨m', h1, h2⟩ := fin ys σ' acc hP hfresh
  have S₁ : St B ((f.env.locals, .fr f m) :: (C, c) :: (acc, .list ys) :: φ) σ' s' := S'.perm perm3
  refine wpAny_assign_Name (wpAny_mono (X.stoLoc (B := B) (A := A) (E := E) (v := .ref acc) (Q := fun _ m₁ σ₁ => m₁ = m' ∧ σ₁ = σ') h1 ⟨rfl, rfl⟩ s' ((F.cons (p := (acc, .list ys))).cons (p := (C, c)) |>.pm perm3) S₁) (fun _ s₂ ⟨m₁, σ₁, S₂, e1, e2⟩ => ?_) fun _ _ e => e)
  subst e1 e2
  have S₃ : St B ((C, c) :: (acc, .list ys) :: (f.env.locals, .fr f m₁) :: φ) σ₁ s₂ := S₂.perm perm3'
  obtain ⟨f', m₂, rfl⟩ := hC
  refine ⟨let ⟨_, _, mm, h, _⟩ := (S₃.ph _ (.head _)).1; ⟨mm, h⟩, fun h' hsame => ?_⟩
  have S₄ := (S₃.lose (h' := h') (tk := s₂.toks) hsame.extBut).show
  exact ⟨m₁, _, S₄.1, h2⟩
end
end Mine
end
section
open PySem PySem.W PyProof.Rows
set_option maxRecDepth 100000
set_option Elab.async false
set_option linter.unusedVariables false
namespace Mine
section
variable {B : Bd} {φ : Phi} {A : Around} {f : Fm} {m : LM} {σ : Sig} {E : Value → Shared → Prop}
theorem CompLoop.one {elt iter : Expr} {x : Str} {px : Pos} {o : Option Expr} {scope : Scope} {pos : Pos} {fr : List (Str × Addr)} {gl : List (Str × Value)} {vs : List Val} {R : Sig → Prop} {P : List Val → Sig → Prop}
    (I : Nat → List Val → Sig → Prop) (hcell : cellNames scope.names = []) (hR : ∀ i ys σ, I i ys σ → R σ) (hb : ∀ i ys σ, I i ys σ → ys.length ≤ 10000) (h0 : I 0 [] σ)
    (step : ∀ i y ys σ φ' env E, vs[i]? = some y → I i ys σ → Ifs B φ' A ⟨env, fr, gl⟩ [(x, some y)] o σ (fun b σ₂ => (b = true → Ev B φ' A ⟨env, fr, gl⟩ [(x, some y)] elt σ₂ (fun u σ₃ => I (i + 1) (ys ++ [u]) σ₃) E) ∧ (b = false → I (i + 1) ys σ₂)) E)
    (fin : ∀ ys σ, I vs.length ys σ → P ys σ) : CompLoop B φ A elt [⟨.Name x px, iter, o.toList, 0⟩] scope pos [x] fr gl vs R σ P := by
  intro as hl hfr it c acc env s Rr G F S hfin
  rw [hcell] at hl F S hfin
  cases as with
  | cons _ _ => cases hl
  | nil =>
    refine loopLast (f := ⟨env, fr, gl⟩) (m := nones [x]) (o := o) rfl rfl G (fun i ys m σ => I i ys σ ∧ ∃ w, m = [(x, w)]) (fun i ys m σ h => hR i ys σ h.1) (fun i ys m σ h => hb i ys σ h.1) ?_ F S ⟨h0, none, rfl⟩ (fun s' ys m σ h S' => hfin s' ys m σ (fin ys σ h.1) S')
    rintro i y ys m σ it c acc E hy ⟨hI, w, rfl⟩ v hv
    subst hv
    refine fun s F S => wpAny_assign_Name (X.stoLoc (m' := [(x, some (er v))]) .head ?_ s F S)
    have := step i _ ys σ ((it, c) :: (acc, .list ys) :: φ) env E hy hI
    cases o with
    | none => exact ⟨fun hb => (this.1 hb).mono fun u σ h => ⟨h, _, rfl⟩, fun hb => ⟨this.2 hb, _, rfl⟩⟩
    | some e => exact Bt.mono this fun b σ h => ⟨fun hb => (h.1 hb).mono fun u σ h => ⟨h, _, rfl⟩, fun hb => ⟨h.2 hb, _, rfl⟩⟩
/-- the variable is a cell -/
theorem CompLoop.cel {elt iter : Expr} {x : Str} {px : Pos} {o : Option Expr} {scope : Scope} {pos : Pos} {fr : List (Str × Addr)} {gl : List (Str × Value)} {vs : List Val} {R : Sig → Prop} {P : List Val → Sig → Prop}
    (I : Addr → Nat → List Val → Sig → Prop) (hcell : cellNames scope.names = [x]) (hR : ∀ a i ys σ, I a i ys σ → R σ) (hb : ∀ a i ys σ, I a i ys σ → ys.length ≤ 10000) (h0 : ∀ a, σ a = none → I a 0 [] (σ.upd a (.cel none)))
    (hc : ∀ a i ys σ, I a i ys σ → ∃ w, σ a = some (.cel w))
    (step : ∀ a i y ys σ φ' env E, vs[i]? = some y → I a i ys σ → Ifs B φ' A ⟨env, (x, a) :: fr, gl⟩ [] o (σ.upd a (.cel (some y))) (fun b σ₂ => (b = true → Ev B φ' A ⟨env, (x, a) :: fr, gl⟩ [] elt σ₂ (fun u σ₃ => I a (i + 1) (ys ++ [u]) σ₃) E) ∧ (b = false → I a (i + 1) ys σ₂)) E)
    (fin : ∀ a ys σ, I a vs.length ys σ → P ys σ) : CompLoop B φ A elt [⟨.Name x px, iter, o.toList, 0⟩] scope pos [] fr gl vs R σ P := by
  intro as hl hfr it c acc env s Rr G F S hfin
  rw [hcell] at hl F S hfin
  obtain ⟨a, rfl⟩ := hb1 (P := fun as => ∃ a, as = [a]) (fun a => ⟨a, rfl⟩) as hl
  refine loopLast (f := ⟨env, (x, a) :: fr, gl⟩) (m := nones []) (o := o) rfl rfl G (fun i ys m σ => I a i ys σ ∧ m = []) (fun i ys m σ h => hR a i ys σ h.1) (fun i ys m σ h => hb a i ys σ h.1) ?_ F S ⟨h0 a hfr.1, rfl⟩ (fun s' ys m σ h S' => hfin s' ys m σ (fin a ys σ h.1) S')
  rintro i y ys m σ it c acc E hy ⟨hI, rfl⟩ v hv
  subst hv
  obtain ⟨w, hw⟩ := hc a i ys σ hI
  refine fun s F S => wpAny_assign_Name (X.stoCel (.head _) hw ?_ s F S)
  have := step a i _ ys σ ((it, c) :: (acc, .list ys) :: φ) env E hy hI
  cases o with
  | none => exact ⟨fun hb => (this.1 hb).mono fun u σ h => ⟨h, rfl⟩, fun hb => ⟨this.2 hb, rfl⟩⟩
  | some e => exact Bt.mono this fun b σ h => ⟨fun hb => (h.1 hb).mono fun u σ h => ⟨h, rfl⟩, fun hb => ⟨h.2 hb, rfl⟩⟩
/-- two generators, both variables local -/
theorem CompLoop.two {elt iter iter1 : Expr} {x y : Str} {px py : Pos} {o : Option Expr} {scope : Scope} {pos : Pos} {fr : List (Str × Addr)} {gl : List (Str × Value)} {vs vs1 : List Val} {R R1 : Sig → Prop} {P : List Val → Sig → Prop}
    (J : Nat → Nat → List Val → Sig → Prop) (hcell : cellNames scope.names = []) (hR : ∀ i ys σ, J i 0 ys σ → R σ) (hR1 : ∀ i j ys σ, J i j ys σ → R1 σ) (hb : ∀ i j ys σ, J i j ys σ → ys.length ≤ 10000) (h0 : J 0 0 [] σ)
    (step0 : ∀ i u ys σ φ' env w E, vs[i]? = some u → J i 0 ys σ → Ev B φ' A ⟨env, fr, gl⟩ [(x, some u), (y, w)] iter1 σ (fun v σ₂ => It B ((env.locals, .fr ⟨env, fr, gl⟩ [(x, some u), (y, w)]) :: φ') A v σ₂ vs1 R1 (fun σ₃ => J i 0 ys σ₃)) E)
    (step1 : ∀ i j u v ys σ φ' env E, vs[i]? = some u → vs1[j]? = some v → J i j ys σ → Ifs B φ' A ⟨env, fr, gl⟩ [(x, some u), (y, some v)] o σ (fun b σ₂ => (b = true → Ev B φ' A ⟨env, fr, gl⟩ [(x, some u), (y, some v)] elt σ₂ (fun u σ₃ => J i (j + 1) (ys ++ [u]) σ₃) E) ∧ (b = false → J i (j + 1) ys σ₂)) E)
    (nxt : ∀ i ys σ, J i vs1.length ys σ → J (i + 1) 0 ys σ)
    (fin : ∀ ys σ, J vs.length 0 ys σ → P ys σ)
    (hs : ∀ env x, foldedSetIterable iter1 env x = pure x := by intro _ _; rfl) : CompLoop B φ A elt [⟨.Name x px, iter, [], 0⟩, ⟨.Name y py, iter1, o.toList, 0⟩] scope pos [x, y] fr gl vs R σ P := by
  intro as hl hfr it c acc env s Rr G F S hfin
  rw [hcell] at hl F S hfin
  cases as with
  | cons _ _ => cases hl
  | nil =>
    refine loopTwo (f := ⟨env, fr, gl⟩) (m := nones [x, y]) (o := o) (vs1 := vs1) (R1 := R1) G (fun i ys m σ => J i 0 ys σ ∧ ∃ a b, m = [(x, a), (y, b)]) (fun i j ys m σ => J i j ys σ ∧ ∃ u b, vs[i]? = some u ∧ m = [(x, some u), (y, b)]) (fun i ys m σ h => hR i ys σ h.1) (fun i j ys m σ h => hR1 i j ys σ h.1) (fun i j ys m σ h => hb i j ys σ h.1) ?_ ?_ ?_ F S ⟨h0, none, none, rfl⟩ (fun s' ys m σ h S' => hfin s' ys m σ (fin ys σ h.1) S') (hs := hs env)
    · rintro i u ys m σ it c acc E hu ⟨hI, a, b, rfl⟩ v hv
      subst hv
      refine fun s F S => wpAny_assign_Name (X.stoLoc (m' := [(x, some (er v)), (y, b)]) .head ?_ s F S)
      have := step0 i _ ys σ ((it, c) :: (acc, .list ys) :: φ) env b E hu hI
      refine Ev.mono this fun w σ₂ hIt u s Q E hw F S k => hIt u s Q E hw F S fun it c σ' s' S' hJ G => k it c σ' s' S' ⟨hJ, _, _, hu, rfl⟩ G
    · rintro i j v' ys m σ it c acc φ' E hy ⟨hI, u, b, hu, rfl⟩ v hv
      subst hv
      refine fun s F S => wpAny_assign_Name (X.stoLoc (m' := [(x, some u), (y, some (er v))]) (.tail .head) ?_ s F S)
      have := step1 i j u _ ys σ ((it, c) :: (acc, .list ys) :: φ') env E hu hy hI
      cases o with
      | none => exact ⟨fun hb => (this.1 hb).mono fun u σ h => ⟨h, _, _, hu, rfl⟩, fun hb => ⟨this.2 hb, _, _, hu, rfl⟩⟩
      | some e => exact Bt.mono this fun b σ h => ⟨fun hb => (h.1 hb).mono fun u σ h => ⟨h, _, _, hu, rfl⟩, fun hb => ⟨h.2 hb, _, _, hu, rfl⟩⟩
    · rintro i ys m σ ⟨hI, u, b, hu, rfl⟩
      exact ⟨nxt i ys σ hI, _, _, rfl⟩
end
end Mine
end
section
open PySem PySem.W PyProof.Rows
set_option maxRecDepth 100000
set_option Elab.async false
set_option linter.unusedVariables false
namespace Mine
noncomputable def Sig.Le (σ' σ : Sig) : Prop := ∀ a c, σ' a = some c → σ a = some c
theorem Sig.le_refl {σ : Sig} : Sig.Le σ σ := fun _ _ h => h
theorem Sig.le_fresh {σ' σ : Sig} {a : Addr} {c : Cell} (ha : σ a = none) (h : Sig.Le σ' σ) : Sig.Le σ' (σ.upd a c) := fun b d e => by
  have := h b d e
  rw [Sig.upd_ne]; exact this
  intro e'; subst e'; rw [ha] at this; cases this
section
variable {B : Bd} {φ : Phi} {A : Around} {f : Fm} {m : LM} {σ σ' : Sig} {E : Value → Shared → Prop}
theorem Es.le {st : List Stmt} {Q : Fl → LM → Sig → Prop} (h : Es B φ A f m st σ' Q E) (l : Sig.Le σ' σ) : Es B φ A f m st σ Q E := fun s F S => h s F (S.le l)
end
end Mine
end
section
open PySem PySem.W PyProof.Rows
set_option maxRecDepth 100000
set_option Elab.async false
set_option linter.unusedVariables false
namespace Mine
theorem gv_bi {w : World} {x : Str} {v : Value} (h1 : nsIn (K0 w) mainGlobals x = some none) (h2 : bootBuiltins x = some v) (h3 : x ≠ "__name__") : GVal w x v := .inr ⟨h1, h2, h3⟩
theorem gv_law_draw {w : World} : GVal w (Str.ofString "_law_draw") (.ref 712) := .inl (by kernel_rfl)
theorem gv_law_take {w : World} : GVal w (Str.ofString "_law_take") (.ref 719) := .inl (by kernel_rfl)
theorem gv_law_least {w : World} : GVal w (Str.ofString "_law_least") (.ref 724) := .inl (by kernel_rfl)
theorem gv_law_network {w : World} : GVal w (Str.ofString "_law_network") (.ref 731) := .inl (by kernel_rfl)
theorem gv_law_read {w : World} : GVal w (Str.ofString "_law_read") (.ref 736) := .inl (by kernel_rfl)
theorem gv_law_added {w : World} : GVal w (Str.ofString "_law_added") (.ref 741) := .inl (by kernel_rfl)
theorem gv_law_road {w : World} : GVal w (Str.ofString "_law_road") (.ref 746) := .inl (by kernel_rfl)
theorem gv_law_refused {w : World} : GVal w (Str.ofString "_law_refused") (.ref 753) := .inl (by kernel_rfl)
theorem gv_edmonds_karp_core {w : World} : GVal w (Str.ofString "edmonds_karp_core") (.ref 700) := .inl (by kernel_rfl)
theorem gv_edmonds_karp_impl {w : World} : GVal w (Str.ofString "edmonds_karp_impl") (.ref 707) := .inl (by kernel_rfl)
theorem gv_DiGraph {w : World} : GVal w (Str.ofString "DiGraph") (.ref 676) := .inl (by kernel_rfl)
theorem gv_NetworkXUnbounded {w : World} : GVal w (Str.ofString "NetworkXUnbounded") (.ref 68) := .inl (by kernel_rfl)
theorem gv_NetworkXError {w : World} : GVal w (Str.ofString "NetworkXError") (.ref 44) := .inl (by kernel_rfl)
theorem gv_NOT_FOUND {w : World} : GVal w (Str.ofString "_NOT_FOUND") (.ref 252) := .inl (by kernel_rfl)
theorem gv_range {w : World} : GVal w (Str.ofString "range") (.type "range") := gv_bi (by kernel_rfl) (by kernel_rfl) (by decide +kernel)
theorem gv_list {w : World} : GVal w (Str.ofString "list") (.type "list") := gv_bi (by kernel_rfl) (by kernel_rfl) (by decide +kernel)
theorem gv_float {w : World} : GVal w (Str.ofString "float") (.type "float") := gv_bi (by kernel_rfl) (by kernel_rfl) (by decide +kernel)
theorem gv_str {w : World} : GVal w (Str.ofString "str") (.type "str") := gv_bi (by kernel_rfl) (by kernel_rfl) (by decide +kernel)
theorem gv_abs {w : World} : GVal w (Str.ofString "abs") (.builtin "abs") := gv_bi (by kernel_rfl) (by kernel_rfl) (by decide +kernel)
theorem gv_len {w : World} : GVal w (Str.ofString "len") (.builtin "len") := gv_bi (by kernel_rfl) (by kernel_rfl) (by decide +kernel)
theorem gv_sum {w : World} : GVal w (Str.ofString "sum") (.builtin "sum") := gv_bi (by kernel_rfl) (by kernel_rfl) (by decide +kernel)
theorem gv_min {w : World} : GVal w (Str.ofString "min") (.builtin "min") := gv_bi (by kernel_rfl) (by kernel_rfl) (by decide +kernel)
theorem gv_max {w : World} : GVal w (Str.ofString "max") (.builtin "max") := gv_bi (by kernel_rfl) (by kernel_rfl) (by decide +kernel)
theorem gv_iter {w : World} : GVal w (Str.ofString "iter") (.builtin "iter") := gv_bi (by kernel_rfl) (by kernel_rfl) (by decide +kernel)
theorem gv_next {w : World} : GVal w (Str.ofString "next") (.builtin "next") := gv_bi (by kernel_rfl) (by kernel_rfl) (by decide +kernel)
end Mine
end
section
open PySem PySem.W PyProof.Rows
set_option maxRecDepth 100000
set_option Elab.async false
set_option linter.unusedVariables false
namespace Mine
section
variable {B : Bd} {φ : Phi} {A : Around} {f : Fm} {m : LM} {σ : Sig} {E : Value → Shared → Prop} {Q : Val → Sig → Prop}
/-! ### lists -/
theorem Cl.len {l : Addr} {vs : List Val} (hl : σ l = some (.list vs)) (hz : vs.length ≤ 100000) (q : Q (.int vs.length) σ) : Cl B φ A (.builtin "len") [.ref l] [] σ Q E := fun us ks hu hk s F S => by
  obtain ⟨a, rfl, ha⟩ := one_arg hu; rw [no_kw hk, er_ref ha]
  obtain ⟨items, n, ho, e⟩ := S.look hl
  subst e
  rw [List.length_map, Array.length_toList] at q hz
  exact PySem.Calls.call_len_list ⟨_, ho, rfl, n, rfl⟩ (by omega) ⟨_, (S.toks _), q⟩
theorem Bn.addList {a b : Addr} {xs ys : List Val} (ha : σ a = some (.list xs)) (hb : σ b = some (.list ys)) (hz : xs.length + ys.length ≤ 100000) (q : ∀ c, σ c = none → Q (.ref c) (σ.upd c (.list (xs ++ ys)))) :
    Bn B φ A .Add (.ref a) (.ref b) σ Q E := fun u v hu hv s F S => by
  rw [er_ref hu, er_ref hv]
  obtain ⟨i1, n1, h1, e1⟩ := S.look ha
  obtain ⟨i2, n2, h2, e2⟩ := S.look hb
  subst e1 e2
  simp only [List.length_map, Array.length_toList] at hz
  refine PySem.P.add_list h1 h2 ⟨_, S.alloc (c := .list (i1.toList.map er ++ i2.toList.map er)) (fun b o e => Heap.get?_push_of_some _ e) ⟨_, _, Heap.get?_push_size _ rfl, by simp⟩, q _ S.fresh.1⟩ (big_le hz)
theorem repl_foldl {v : Value} : ∀ (n : Nat) (acc : Array Value), (List.foldl (fun x1 x2 => x1 ++ x2) acc (List.replicate n #[v])).toList = acc.toList ++ List.replicate n v
  | 0, acc => by simp
  | n + 1, acc => by
    rw [List.replicate_succ, List.foldl_cons, repl_foldl n, Array.toList_append, List.append_assoc]
    rfl
theorem Bn.mulList {a : Addr} {x : Val} {n : Int} (ha : σ a = some (.list [x])) (h0 : 0 ≤ n) (hz : n ≤ 100000) (q : ∀ c, σ c = none → Q (.ref c) (σ.upd c (.list (List.replicate n.toNat x)))) :
    Bn B φ A .Mult (.ref a) (.int n) σ Q E := fun u v hu hv s F S => by
  rw [er_ref hu]; obtain ⟨t, rfl⟩ := er_int hv
  obtain ⟨i1, k, h1, e1⟩ := S.look ha
  obtain ⟨l1⟩ := i1
  match l1, e1 with
  | [y], e1 =>
    simp only [List.map_cons, List.map_nil, List.cons.injEq, and_true] at e1
    subst e1
    refine wpAny_binaryOp_repeat_ref (T := "list") (U := "int") (by decide) ⟨_, h1, rfl⟩ (fun s' => typeIs_int s' n t) noFill_list_mul PySem.F.fills_int_mul PySem.F.slot_int_rmul repeat_list PySem.F.slot_int_index.lookup
      (call_meets PySem.F.slot_int_rmul (typeIs_int s n t) PySem.F.entry_int_rmul (PySem.F.args_int_rmul_2 _ _) (int___rmul___int_list n t a #[y] k)
        ⟨h1, rfl, ⟨_, h1, rfl⟩, call_meets PySem.F.slot_list_mul ⟨_, h1, rfl⟩ PySem.F.entry_list_mul (PySem.F.args_list_mul_2 _ _)
          (AutoListH.list___mul___list_int_3 a #[y] k n t (by simp [Builtin.List.listFitsIndex]; omega) (by simp; omega) (by simp [Builtin.List.listTooLong, sizeLine]; omega))
          ⟨h1, ?_⟩⟩)
    refine ⟨_, S.alloc (c := .list (List.replicate n.toNat (er y))) (fun b o e => Heap.get?_push_of_some _ e) ⟨_, _, Heap.get?_push_size _ rfl, ?_⟩, q _ S.fresh.1⟩
    show (List.foldl (fun x1 x2 => x1 ++ x2) #[] (List.replicate n.toNat #[y])).toList.map er = _
    rw [repl_foldl]
    simp
theorem Cl.listOf {l : Addr} {vs : List Val} (hl : σ l = some (.list vs)) (hz : vs.length ≤ 100000) (q : ∀ c, σ c = none → Q (.ref c) (σ.upd c (.list vs))) : Cl B φ A (.type "list") [.ref l] [] σ Q E := fun us ks hu hk s F S => by
  obtain ⟨a, rfl, ha⟩ := one_arg hu; rw [no_kw hk, er_ref ha]
  obtain ⟨items, n, ho, e⟩ := S.look hl
  subst e
  rw [List.length_map, Array.length_toList] at hz
  exact call_list_seq l (T := "list") (.inl rfl) ho rfl rfl (fun h' c' hk' hn => ⟨_, S.alloc (c := .list (items.toList.map er)) hk' ⟨_, _, hn, rfl⟩, q _ S.fresh.1⟩) (big_le hz)
/-! ### slices up to -/
noncomputable def sliceC (u : Int) : Cell := .pr fun o => o.cls = .type "slice" ∧ ∃ t, o.data = .fields #[.none, .int u t, .none]
theorem Ev.slice {e : Expr} {p : Pos} (h : Ev B φ A f m e σ (fun v σ₁ => ∃ u, v = .int u ∧ ∀ a, σ₁ a = Option.none → Q (.ref a) (σ₁.upd a (sliceC u))) E) : Ev B φ A f m (.Slice Option.none (some e) Option.none p) σ Q E := fun s F S => by
  refine wpAny_Slice (wpAny_pure (wpAny_mono (h s F S) (fun v s₁ ⟨σ₁, S₁, u, hv, hq⟩ => wpAny_pure ?_) fun _ _ e => e))
  obtain ⟨t, rfl⟩ := er_int hv
  exact ⟨_, S₁.alloc (c := sliceC u) (tk := s₁.toks) (fun b o e => Heap.get?_push_of_some _ e) ⟨_, Heap.get?_push_size _ rfl, rfl, t, rfl⟩, hq _ S₁.fresh.1⟩
theorem Su.sliceTo {value slice : Expr} {l b : Addr} {vs : List Val} {u : Int} (hl : σ l = some (.list vs)) (hb : σ b = some (sliceC u)) (hz : vs.length ≤ 100000) (q : ∀ c, σ c = none → Q (.ref c) (σ.upd c (.list (vs.take (clipAt vs.length u)))))
    (hs : ∀ o i, subscripted slice false o i = operate [i, o] (getItem o i) := by intros; with_unfolding_all rfl) :
    Su B φ A value slice (.ref l) (.ref b) σ Q E := fun x y hx hy s F S => by
  rw [er_ref hx, er_ref hy]
  obtain ⟨items, n, ho, e⟩ := S.look hl
  obtain ⟨o, hob, hc, t, hd⟩ := S.look hb
  subst e
  rw [List.length_map, Array.length_toList] at hz q
  refine tail_any (S.tyList hl) slot_list_getitem.lookup (wpAny_getItem_list_slice ⟨_, ho, rfl, n, rfl⟩ ⟨o, hob, hc, hd⟩ .none (.int u t) .none (by simp) ⟨_, S.alloc (c := .list ((items.toList.map er).take (clipAt items.size u))) (fun b o e => Heap.get?_push_of_some _ e) ⟨_, _, Heap.get?_push_size _ rfl, ?_⟩, q _ S.fresh.1⟩ (big_le hz)) (hs _ _)
  rw [slicePick_plain]
  simp [Option.elim, List.map_take]
theorem clip_neg {n : Nat} (h : 0 < n) : clipAt n (-1) = n - 1 := by
  have := clipAt_cast n (-1)
  rw [if_pos (by decide)] at this
  omega
theorem clip_le {n : Nat} {u : Int} (h : 0 ≤ u) : clipAt n u = min u.toNat n := by
  have := clipAt_cast n u
  rw [if_neg (by omega)] at this
  omega
/-! ### min, max, sum -/
theorem walkList {s : Shared} (S : St B φ σ s) (F : FrOk A φ) {l : Addr} {items : Array Value} (hl : s.heap.IsList l items) : ∃ fp : List Addr, (∀ b ∈ fp, b ≤ s.heap.objs.size) ∧
    ∃ T : Nat → Heap → Prop, Walks pg B.w A s.heap.objs.size fp [s.heap.objs.size] items.size (fun i v => items[i]? = some v) T ∧
      T 0 (s.heap.push { cls := .type "list_iterator", data := .fields #[.ref l, .int 0 0] }) := by
  obtain ⟨o, ho, _⟩ := id hl
  have hne : l ≠ s.heap.objs.size := Nat.ne_of_lt (Heap.lt_size ho)
  have hli : (s.heap.push { cls := .type "list_iterator", data := .fields #[.ref l, .int 0 0] }).IsListIter s.heap.objs.size l 0 := ⟨_, Heap.get?_push_size _ rfl, rfl, rfl⟩
  rcases F.1 with hh | ⟨a, P, hh, hm, hr⟩
  · refine ⟨[s.heap.objs.size, l], fun b hb => ?_, _, Walks.list hh _ l hne items, hli, hl.push _⟩
    rcases List.mem_cons.mp hb with rfl | hb
    · exact Nat.le_refl _
    · rcases List.mem_cons.mp hb with rfl | hb
      · exact Nat.le_of_lt (Heap.lt_size ho)
      · cases hb
  · obtain ⟨ox, hox, hp⟩ := (S.ph _ hm).1
    obtain ⟨fs, h1, h2⟩ := hr ox hp
    have hax : a ≠ s.heap.objs.size := Nat.ne_of_lt (Heap.lt_size hox)
    refine ⟨[s.heap.objs.size, l, a], fun b hb => ?_, fun i h => (h.IsListIter s.heap.objs.size l i ∧ h.IsList l items) ∧ h.get? a = some ox, ⟨fun b hb => ?_, fun i h h' st hk => ?_, fun i s' Q E hi st hQ => ?_, fun s' Q E st hQ => ?_, fun i s' Q E st hQ => ?_⟩, ⟨hli, hl.push _⟩, Heap.get?_push_of_some _ hox⟩
    · rcases List.mem_cons.mp hb with rfl | hb
      · exact Nat.le_refl _
      · rcases List.mem_cons.mp hb with rfl | hb
        · exact Nat.le_of_lt (Heap.lt_size ho)
        · rcases List.mem_cons.mp hb with rfl | hb
          · exact Nat.le_of_lt (Heap.lt_size hox)
          · cases hb
    · rcases List.mem_cons.mp hb with rfl | hb
      · exact .head _
      · cases hb
    · exact ⟨⟨st.1.1.at fun o e => hk _ (by simp) o e, st.1.2.at fun o e => hk l (by simp) o e⟩, hk a (by simp) _ st.2⟩
    · refine wpAny_pyNext_list_item st.1.1 st.1.2 (x := items[i]) (by simp [hi]) fun h' hit' hs' => ?_
      exact hQ _ h' s'.toks (by simp [hi]) ⟨⟨hit', st.1.2.extBut hs'.extBut hne⟩, hs'.extBut _ _ hax st.2⟩ fun b o hb e => hs'.extBut b o (fun h => hb (by simp [h])) e
    · refine next_list_end (w := B.w) (fun h' x hx hk => .inr ⟨a, ox, fs, hh, ?_, hk _ _ hax st.2, h1, h2⟩) st.1.1 st.1.2 (by simp) fun h' he' => hQ h' s'.toks fun b o hb e => he' b o (fun h => hb (by simp [h])) e
      exact Nat.ne_of_lt (Nat.lt_trans (Heap.lt_size st.2) hx)
    · exact wpAny_pyIter_listiter st.1.1 hQ
theorem val_of {items : Array Value} {ns : List Int} (e : items.toList.map er = ns.map Val.int) : items.size = ns.length ∧ ∀ i v, items[i]? = some v → ∃ t, v = Value.int (ns.getD i 0) t := by
  refine ⟨by have := congrArg List.length e; simpa using this, fun i v h => ?_⟩
  have := congrArg (·[i]?) e
  simp only [List.getElem?_map, Array.getElem?_toList, h, Option.map_some] at this
  cases q : ns[i]? with
  | none => rw [q] at this; cases this
  | some n =>
    rw [q] at this
    simp only [Option.map_some, Option.some.injEq] at this
    rw [List.getD_eq_getElem?_getD, q]
    exact er_int this
theorem preSum_take {ns : List Int} : ∀ j, j ≤ ns.length → preSum (fun i => ns.getD i 0) j = (ns.take j).sum
  | 0, _ => by simp [preSum]
  | j + 1, h => by
    rw [preSum, preSum_take j (by omega), List.take_add_one, List.sum_append, List.getD_eq_getElem?_getD]
    have : ns[j]? = some (ns[j]) := List.getElem?_eq_getElem (by omega)
    rw [this]; simp
theorem sum_bound {k : Int} (hk : 0 ≤ k) : ∀ {ns : List Int}, (∀ n ∈ ns, -k ≤ n ∧ n ≤ k) → -(k * ns.length) ≤ ns.sum ∧ ns.sum ≤ k * ns.length
  | [], _ => by simp
  | n :: r, h => by
    have h1 := sum_bound hk (ns := r) (fun x hx => h x (.tail _ hx))
    have h2 := h n (.head _)
    simp only [List.sum_cons, List.length_cons]
    have e : k * ((r.length + 1 : Nat) : Int) = k * r.length + k := by rw [Int.natCast_add, Int.mul_add]; simp
    rw [e]; omega
theorem Cl.sum {l : Addr} {ns : List Int} (hl : σ l = some (.list (ns.map Val.int))) (hz : ns.length ≤ 100000) (hb : ∀ n ∈ ns, -(2 ^ 40) ≤ n ∧ n ≤ 2 ^ 40) (q : Q (.int ns.sum) σ) : Cl B φ A (.builtin "sum") [.ref l] [] σ Q E := fun us ks hu hk s F S => by
  obtain ⟨a, rfl, ha⟩ := one_arg hu; rw [no_kw hk, er_ref ha]
  obtain ⟨items, n, ho, e⟩ := S.look hl
  obtain ⟨e1, e2⟩ := val_of e
  have hl' : s.heap.IsList l items := ⟨_, ho, rfl, n, rfl⟩
  obtain ⟨fp, hfp, T, W, hT⟩ := walkList S F.in1 hl'
  refine call_sum_walk (wpAny_pyIter_list hl' ⟨_, fp, _, _, _, T, fun i => ns.getD i 0, rfl, W, hT, fun b hb => ?_, e2, fun j hj => ?_, fun h' tk t' hk' => ?_⟩)
  · show b < (s.heap.push _).objs.size
    rw [Heap.size_push]; exact Nat.lt_succ_of_le (hfp b hb)
  · rw [preSum_take (j + 1) (by omega)]
    show InLong (ns.getD j 0) ∧ _
    rw [List.getD_eq_getElem?_getD, List.getElem?_eq_getElem (by omega)]
    have b1 := hb _ (List.getElem_mem (by omega : j < ns.length))
    have b2 := sum_bound (k := 2 ^ 40) (by decide) (ns := ns.take (j + 1)) fun n hn => hb n (List.mem_of_mem_take hn)
    have b3 : ((ns.take (j + 1)).length : Int) ≤ 100000 := by rw [List.length_take]; omega
    have b4 : (2 : Int) ^ 40 * ((ns.take (j + 1)).length : Int) ≤ 2 ^ 40 * 100000 := Int.mul_le_mul_of_nonneg_left b3 (by decide)
    rw [Option.getD_some]
    refine ⟨⟨?_, ?_⟩, ⟨?_, ?_⟩⟩ <;> omega
  · rw [e1, preSum_take ns.length (Nat.le_refl _), List.take_length]
    refine ⟨σ, S.ext (h' := h') (tk := tk) fun b o eb => hk' b o ?_ (Heap.get?_push_of_some _ eb), q⟩
    intro hm
    rcases List.mem_cons.mp hm with rfl | hm
    · exact absurd (Heap.lt_size eb) (Nat.lt_irrefl _)
    · cases hm
theorem Cl.minOf {l : Addr} {ns : List Int} (hl : σ l = some (.list (ns.map Val.int))) (hne : 0 < ns.length) (q : ∀ r, r ∈ ns → (∀ n ∈ ns, r ≤ n) → Q (.int r) σ) : Cl B φ A (.builtin "min") [.ref l] [] σ Q E := fun us ks hu hk s F S => by
  obtain ⟨a, rfl, ha⟩ := one_arg hu; rw [no_kw hk, er_ref ha]
  obtain ⟨items, n, ho, e⟩ := S.look hl
  obtain ⟨e1, e2⟩ := val_of e
  have hl' : s.heap.IsList l items := ⟨_, ho, rfl, n, rfl⟩
  obtain ⟨fp, hfp, T, W, hT⟩ := walkList S F.in1 hl'
  refine call_min_walk (wpAny_pyIter_list hl' ⟨_, fp, _, _, _, T, _, rfl, W, hT, fun b hb => ?_, by omega, CmpOf.ints_lt (fun i => ns.getD i 0) e2, fun v h' tk hP hk' => ?_⟩)
  · show b < (s.heap.push _).objs.size
    rw [Heap.size_push]; exact Nat.lt_succ_of_le (hfp b hb)
  · obtain ⟨t, rfl⟩ := e2 _ _ hP
    have ab := argBest_lt (fun i => ns.getD i 0) (items.size - 1)
    refine ⟨σ, S.ext (h' := h') (tk := tk) fun b o eb => hk' b o ?_ (Heap.get?_push_of_some _ eb), q _ ?_ fun n hn => ?_⟩
    · intro hm
      rcases List.mem_cons.mp hm with rfl | hm
      · exact absurd (Heap.lt_size eb) (Nat.lt_irrefl _)
      · cases hm
    · rw [List.getD_eq_getElem?_getD, List.getElem?_eq_getElem (by omega)]; exact List.getElem_mem _
    · obtain ⟨j, hj, rfl⟩ := List.getElem_of_mem hn
      have := ab.2 j (by omega)
      have e : ns.getD j 0 = ns[j] := by rw [List.getD_eq_getElem?_getD, List.getElem?_eq_getElem hj]; rfl
      rw [← e]; exact this
theorem Cl.maxOf {l : Addr} {ns : List Int} (hl : σ l = some (.list (ns.map Val.int))) (hne : 0 < ns.length) (q : ∀ r, r ∈ ns → (∀ n ∈ ns, n ≤ r) → Q (.int r) σ) : Cl B φ A (.builtin "max") [.ref l] [] σ Q E := fun us ks hu hk s F S => by
  obtain ⟨a, rfl, ha⟩ := one_arg hu; rw [no_kw hk, er_ref ha]
  obtain ⟨items, n, ho, e⟩ := S.look hl
  obtain ⟨e1, e2⟩ := val_of e
  have hl' : s.heap.IsList l items := ⟨_, ho, rfl, n, rfl⟩
  obtain ⟨fp, hfp, T, W, hT⟩ := walkList S F.in1 hl'
  refine call_max_walk (wpAny_pyIter_list hl' ⟨_, fp, _, _, _, T, _, rfl, W, hT, fun b hb => ?_, by omega, CmpOf.ints_gt (fun i => ns.getD i 0) e2, fun v h' tk hP hk' => ?_⟩)
  · show b < (s.heap.push _).objs.size
    rw [Heap.size_push]; exact Nat.lt_succ_of_le (hfp b hb)
  · obtain ⟨t, rfl⟩ := e2 _ _ hP
    have ab := argBest_gt (fun i => ns.getD i 0) (items.size - 1)
    refine ⟨σ, S.ext (h' := h') (tk := tk) fun b o eb => hk' b o ?_ (Heap.get?_push_of_some _ eb), q _ ?_ fun n hn => ?_⟩
    · intro hm
      rcases List.mem_cons.mp hm with rfl | hm
      · exact absurd (Heap.lt_size eb) (Nat.lt_irrefl _)
      · cases hm
    · rw [List.getD_eq_getElem?_getD, List.getElem?_eq_getElem (by omega)]; exact List.getElem_mem _
    · obtain ⟨j, hj, rfl⟩ := List.getElem_of_mem hn
      have := ab.2 j (by omega)
      have e : ns.getD j 0 = ns[j] := by rw [List.getD_eq_getElem?_getD, List.getElem?_eq_getElem hj]; rfl
      rw [← e]; exact this
theorem Cl.min2 {x y : Int} (hA : A.handled = none) (q : Q (.int (min x y)) σ) : Cl B φ A (.builtin "min") [.int x, .int y] [] σ Q E := fun us ks hu hk s F S => by
  obtain ⟨a, b, rfl, ha, hb⟩ := two_arg hu; rw [no_kw hk]
  obtain ⟨t, rfl⟩ := er_int ha; obtain ⟨t', rfl⟩ := er_int hb
  refine call_min_two (wpAny_pyIter_tuple (items := #[.int x t, .int y t']) ⟨_, Heap.get?_push_size _ rfl, rfl, _, rfl⟩ ?_)
  have hsz : (s.heap.push { cls := .type "tuple", data := .seq #[.int x t, .int y t'] }).objs.size = s.heap.objs.size + 1 := Heap.size_push ..
  refine ⟨_, _, _, _, _, _, _, rfl, Walks.tuple (A := A.in1) hA _ s.heap.objs.size (by rw [hsz]; exact Nat.ne_of_lt (Nat.lt_succ_self _)) #[.int x t, .int y t'], ⟨⟨_, Heap.get?_push_size _ rfl, rfl, rfl⟩, ⟨_, Heap.get?_push_of_some _ (Heap.get?_push_size _ rfl), rfl, _, rfl⟩⟩, fun b hb => ?_, by simp, CmpOf.ints_lt (fun i => [x, y].getD i 0) (fun i v hv => ?_), fun v h' tk hP hk' => ?_⟩
  · show b < (Heap.push _ _).objs.size
    rw [Heap.size_push, hsz]
    rcases List.mem_cons.mp hb with e | hb
    · rw [e, hsz]; exact Nat.lt_succ_self _
    · rcases List.mem_cons.mp hb with e | hb
      · rw [e]; exact Nat.lt_succ_of_lt (Nat.lt_succ_self _)
      · cases hb
  · match i, hv with
    | 0, hv => simp at hv; exact ⟨t, hv.symm⟩
    | 1, hv => simp at hv; exact ⟨t', hv.symm⟩
  · have keep : ∀ b o, s.heap.get? b = some o → h'.get? b = some o := fun b o eb => hk' b o (fun hm => by
      rcases List.mem_cons.mp hm with e | hm
      · have := Heap.lt_size eb; rw [e, hsz] at this; exact absurd this (Nat.not_lt.mpr (Nat.le_succ _))
      · cases hm) (Heap.get?_push_of_some _ (Heap.get?_push_of_some _ eb))
    have hv : v = if y < x then .int y t' else .int x t := by
      by_cases hlt : y < x
      · simp [argBest, hlt] at hP ⊢; exact hP.symm
      · simp [argBest, hlt] at hP ⊢; exact hP.symm
    subst hv
    refine ⟨σ, S.ext (h' := h') (tk := tk) keep, ?_⟩
    split
    · rename_i hlt
      have : min x y = y := by omega
      rw [this] at q; exact q
    · rename_i hlt
      have : min x y = x := by omega
      rw [this] at q; exact q
theorem Cl.abs {x : Int} (q : Q (.int (if x < 0 then -x else x)) σ) : Cl B φ A (.builtin "abs") [.int x] [] σ Q E := fun us ks hu hk s F S => by
  obtain ⟨a, rfl, ha⟩ := one_arg hu; rw [no_kw hk]
  obtain ⟨t, rfl⟩ := er_int ha
  exact call_abs_int fun u tk => ⟨σ, S.toks tk, q⟩
end
end Mine
end
section
open PySem PySem.W PyProof.Rows
set_option maxRecDepth 100000
set_option Elab.async false
set_option linter.unusedVariables false
namespace Mine
/-! ### dicts, as lists of pairs -/
section
variable {K : Type} [DecidableEq K]
noncomputable def put (kvs : List (K × Val)) (k : K) (v : Val) : List (K × Val) :=
  if kvs.any (fun kv => kv.1 = k) then kvs.map (fun kv => if kv.1 = k then (kv.1, v) else kv) else kvs ++ [(k, v)]
theorem put_map {kvs : List (K × Value)} {k : K} {v : Value} : (stored kvs k v).map (fun p => (p.1, er p.2)) = put (kvs.map fun p => (p.1, er p.2)) k (er v) := by
  unfold stored put
  have e : (kvs.map fun p => (p.1, er p.2)).any (fun kv => decide (kv.1 = k)) = kvs.any (fun kv => decide (kv.1 = k)) := by
    rw [List.any_map]; rfl
  rw [e]
  split
  · rw [List.map_map, List.map_map]
    congr 1
    funext p
    simp only [Function.comp]
    split <;> rfl
  · rw [List.map_append]; rfl
theorem put_new {kvs : List (K × Val)} {k : K} {v : Val} (h : k ∉ kvs.map (·.1)) : put kvs k v = kvs ++ [(k, v)] := by
  unfold put
  rw [if_neg]
  intro e
  obtain ⟨p, hp, e⟩ := List.any_eq_true.mp e
  exact h (List.mem_map.mpr ⟨p, hp, by simpa using e⟩)
/-- the value at a key turns -/
inductive Std : List (K × Val) → K → Val → List (K × Val) → Prop
  | head {k : K} {u v : Val} {r : List (K × Val)} : Std ((k, u) :: r) k v ((k, v) :: r)
  | tail {k : K} {v : Val} {p : K × Val} {r r' : List (K × Val)} : Std r k v r' → Std (p :: r) k v (p :: r')
theorem Std.mem {kvs kvs' : List (K × Val)} {k : K} {v : Val} (h : Std kvs k v kvs') : k ∈ kvs.map (·.1) := by
  induction h with
  | head => exact .head _
  | tail _ ih => exact .tail _ ih
theorem Std.put {kvs kvs' : List (K × Val)} {k : K} {v : Val} (h : Std kvs k v kvs') (nd : (kvs.map (·.1)).Nodup) : put kvs k v = kvs' := by
  have hm := h.mem
  have ha : kvs.any (fun kv => decide (kv.1 = k)) = true := by
    obtain ⟨p, hp, e⟩ := List.mem_map.mp hm
    exact List.any_eq_true.mpr ⟨p, hp, by simpa using e⟩
  unfold Mine.put
  rw [if_pos ha]
  clear ha hm
  induction h with
  | head =>
    rename_i k u v r
    rw [List.map_cons, List.nodup_cons] at nd
    rw [List.map_cons, if_pos rfl]
    congr 1
    rw [List.map_congr_left (g := id)]
    · simp
    · intro p hp
      rw [if_neg]; rfl
      intro e
      exact nd.1 (List.mem_map.mpr ⟨p, hp, e⟩)
  | tail h ih =>
    rename_i k v p r r'
    rw [List.map_cons, List.nodup_cons] at nd
    rw [List.map_cons, if_neg (fun e => nd.1 (by rw [e]; exact h.mem)), ih nd.2]
theorem valueAt_mem {kvs : List (K × Value)} {k : K} {v : Val} (nd : (kvs.map (·.1)).Nodup) (h : (k, v) ∈ kvs.map fun p => (p.1, er p.2)) : ∃ u, valueAt kvs k = some u ∧ er u = v := by
  obtain ⟨p, hp, e⟩ := List.mem_map.mp h
  obtain ⟨i, hi, e'⟩ := List.getElem_of_mem hp
  obtain ⟨e1, e2⟩ := Prod.mk.inj e
  exact ⟨p.2, valueAt_of_get nd (i := i) (by rw [List.getElem?_eq_getElem hi, e', ← e1]), e2⟩
theorem keys_map {kvs : List (K × Value)} : (kvs.map fun p => (p.1, er p.2)).map (·.1) = kvs.map (·.1) := by rw [List.map_map]; rfl
theorem valueAt_some {kvs : List (K × Value)} {k : K} : (valueAt kvs k).isSome = decide (k ∈ (kvs.map fun p => (p.1, er p.2)).map (·.1)) := by
  rw [valueAt_isSome_eq_any, keys_map, Bool.eq_iff_iff, List.any_eq_true, decide_eq_true_eq, List.mem_map]
  constructor
  · rintro ⟨p, hp, e⟩; exact ⟨p, hp, by simpa using e⟩
  · rintro ⟨p, hp, e⟩; exact ⟨p, hp, by simpa using e⟩
end
section
variable {B : Bd} {φ : Phi} {A : Around} {f : Fm} {m : LM} {σ : Sig} {E : Value → Shared → Prop} {Q : Val → Sig → Prop}
theorem int_key {k : Int} {t : Tok} : (intKind pg B.w).is k (.int k t) = true := by show Value.isInt k (.int k t) = true; simp [Value.isInt]
theorem str_key {k : Str} {t : Tok} : (PySem.strKind pg B.w).is k (.str k t) = true := by show Value.isStrOf k (.str k t) = true; simp [Value.isStrOf]
theorem St.tyDI {s : Shared} (S : St B φ σ s) {d : Addr} {kvs : List (Int × Val)} {ep : Nat} (h : σ d = some (.dI kvs ep)) : s.TypeIs (.ref d) "dict" := by
  obtain ⟨_, hd, _⟩ := S.look h; exact hd.dictOf.typeIs
theorem St.tyDS {s : Shared} (S : St B φ σ s) {d : Addr} {kvs : List (Str × Val)} (h : σ d = some (.dS kvs)) : s.TypeIs (.ref d) "dict" := by
  obtain ⟨_, hd, _⟩ := S.look h; exact hd.typeIs

/-! ### items -/
theorem Gi.dI {d : Addr} {kvs : List (Int × Val)} {ep : Nat} {k : Int} {v : Val} (h : σ d = some (.dI kvs ep)) (hk : (k, v) ∈ kvs) (q : Q v σ) : Gi B φ A (.ref d) (.int k) σ Q E := fun u x hu hx s F S => by
  rw [er_ref hu]; obtain ⟨t, rfl⟩ := er_int hx
  obtain ⟨kv, hd, e⟩ := S.look h
  subst e
  obtain ⟨y, hy, rfl⟩ := valueAt_mem hd.nodup hk
  exact wpAny_getItem_of int_key hd.dictOf.mapOf hy ⟨σ, S.toks _, q⟩
theorem Gi.dS {d : Addr} {kvs : List (Str × Val)} {k : Str} {v : Val} (h : σ d = some (.dS kvs)) (hk : (k, v) ∈ kvs) (q : Q v σ) : Gi B φ A (.ref d) (.str k) σ Q E := fun u x hu hx s F S => by
  rw [er_ref hu]; obtain ⟨t, rfl⟩ := er_str hx
  obtain ⟨kv, hd, e⟩ := S.look h
  subst e
  obtain ⟨y, hy, rfl⟩ := valueAt_mem (let ⟨_, hd'⟩ := hd.dictAt; hd'.nodup) hk
  exact wpAny_getItem_of str_key hd.mapOf hy ⟨σ, S.toks _, q⟩
theorem Su.dI {value slice : Expr} {d : Addr} {kvs : List (Int × Val)} {ep : Nat} {k : Int} {v : Val} (h : σ d = some (.dI kvs ep)) (hk : (k, v) ∈ kvs) (q : Q v σ)
    (hs : ∀ o i, subscripted slice false o i = operate [o, i] (getItem o i) := by intros; rfl) : Su B φ A value slice (.ref d) (.int k) σ Q E := fun u x hu hx s F S => by
  rw [er_ref hu]
  exact tail_any (S.tyDI h) slot_dict_getitem.lookup (Gi.dI h hk q (.ref d) x rfl hx s F S) (hs _ _)
theorem Su.dS {value slice : Expr} {d : Addr} {kvs : List (Str × Val)} {k : Str} {v : Val} (h : σ d = some (.dS kvs)) (hk : (k, v) ∈ kvs) (q : Q v σ)
    (hs : ∀ o i, subscripted slice false o i = operate [o, i] (getItem o i) := by intros; rfl) : Su B φ A value slice (.ref d) (.str k) σ Q E := fun u x hu hx s F S => by
  rw [er_ref hu]
  exact tail_any (S.tyDS h) slot_dict_getitem.lookup (Gi.dS h hk q (.ref d) x rfl hx s F S) (hs _ _)
theorem Si.dI {d : Addr} {kvs : List (Int × Val)} {ep : Nat} {k : Int} {v : Val} {Q : Sig → Prop} (h : σ d = some (.dI kvs ep)) (hz : kvs.length ≤ 1000) (q : ∀ ep', Q (σ.upd d (.dI (put kvs k v) ep'))) : Si B φ A (.ref d) (.int k) v σ Q E := fun u x y hu hx hy s F S => by
  rw [er_ref hu]; obtain ⟨t, rfl⟩ := er_int hx; subst hy
  obtain ⟨kv, hd, e⟩ := S.look h
  subst e
  rw [List.length_map] at hz
  refine wpAny_setItem_pairs int_key hd.dictOf (fun h' hd' hs => ?_) (big_le (by omega))
  obtain ⟨ep', hd'⟩ := hd'.dictAt
  exact ⟨_, S.upd (c' := .dI (put (kv.map fun p => (p.1, er p.2)) k (er y)) ep') h hs.extBut ⟨_, hd', put_map⟩, q ep'⟩
theorem Si.dS {d : Addr} {kvs : List (Str × Val)} {k : Str} {v : Val} {Q : Sig → Prop} (h : σ d = some (.dS kvs)) (hz : kvs.length ≤ 1000) (q : Q (σ.upd d (.dS (put kvs k v)))) : Si B φ A (.ref d) (.str k) v σ Q E := fun u x y hu hx hy s F S => by
  rw [er_ref hu]; obtain ⟨t, rfl⟩ := er_str hx; subst hy
  obtain ⟨kv, hd, e⟩ := S.look h
  subst e
  rw [List.length_map] at hz
  exact wpAny_setItem_pairs str_key hd (fun h' hd' hs => ⟨_, S.upd (c' := .dS (put (kv.map fun p => (p.1, er p.2)) k (er y))) h hs.extBut ⟨_, hd', put_map⟩, q⟩) (big_le (by omega))
theorem St.ndS {s : Shared} (S : St B φ σ s) {d : Addr} {kvs : List (Str × Val)} (h : σ d = some (.dS kvs)) : (kvs.map (·.1)).Nodup := by
  obtain ⟨kv, hd, e⟩ := S.look h
  subst e; rw [keys_map]; exact let ⟨_, hd'⟩ := hd.dictAt; hd'.nodup
/-- the value at a known key -/
theorem Si.dSt {d : Addr} {kvs kvs' : List (Str × Val)} {k : Str} {v : Val} {Q : Sig → Prop} (h : σ d = some (.dS kvs)) (hz : kvs.length ≤ 1000) (st : Std kvs k v kvs') (q : Q (σ.upd d (.dS kvs'))) : Si B φ A (.ref d) (.str k) v σ Q E := fun u x y hu hx hy s F S => by
  have := st.put (S.ndS h)
  refine Si.dS h hz ?_ u x y hu hx hy s F S
  rw [this]; exact q
theorem Si.dSn {d : Addr} {kvs : List (Str × Val)} {k : Str} {v : Val} {Q : Sig → Prop} (h : σ d = some (.dS kvs)) (hz : kvs.length ≤ 1000) (hn : k ∉ kvs.map (·.1)) (q : Q (σ.upd d (.dS (kvs ++ [(k, v)])))) : Si B φ A (.ref d) (.str k) v σ Q E :=
  Si.dS h hz (by rw [put_new hn]; exact q)
theorem Si.dIn {d : Addr} {kvs : List (Int × Val)} {ep : Nat} {k : Int} {v : Val} {Q : Sig → Prop} (h : σ d = some (.dI kvs ep)) (hz : kvs.length ≤ 1000) (hn : k ∉ kvs.map (·.1)) (q : ∀ ep', Q (σ.upd d (.dI (kvs ++ [(k, v)]) ep'))) : Si B φ A (.ref d) (.int k) v σ Q E :=
  Si.dI h hz (by rw [put_new hn]; exact q)

/-! ### membership -/
theorem Cm.inI {d : Addr} {kvs : List (Int × Val)} {ep : Nat} {k : Int} (h : σ d = some (.dI kvs ep)) (q : Q (.bool (decide (k ∈ kvs.map (·.1)))) σ) : Cm B φ A .In (.int k) (.ref d) σ Q E := fun u x hu hx s F S => by
  rw [er_ref hx]; obtain ⟨t, rfl⟩ := er_int hu
  obtain ⟨kv, hd, e⟩ := S.look h
  subst e
  refine wpAny_in_of int_key (S.sys h) hd.dictOf.mapOf ⟨σ, S.toks _, ?_⟩
  rw [valueAt_some]; exact q
theorem Cm.notInI {d : Addr} {kvs : List (Int × Val)} {ep : Nat} {k : Int} (h : σ d = some (.dI kvs ep)) (q : Q (.bool (!decide (k ∈ kvs.map (·.1)))) σ) : Cm B φ A .NotIn (.int k) (.ref d) σ Q E := fun u x hu hx s F S => by
  rw [er_ref hx]; obtain ⟨t, rfl⟩ := er_int hu
  obtain ⟨kv, hd, e⟩ := S.look h
  subst e
  refine wpAny_notIn_of int_key (S.sys h) hd.dictOf.mapOf ⟨σ, S.toks _, ?_⟩
  rw [valueAt_some]; exact q
theorem Cm.inS {d : Addr} {kvs : List (Str × Val)} {k : Str} (h : σ d = some (.dS kvs)) (q : Q (.bool (decide (k ∈ kvs.map (·.1)))) σ) : Cm B φ A .In (.str k) (.ref d) σ Q E := fun u x hu hx s F S => by
  rw [er_ref hx]; obtain ⟨t, rfl⟩ := er_str hu
  obtain ⟨kv, hd, e⟩ := S.look h
  subst e
  refine wpAny_in_of str_key (S.sys h) hd.mapOf ⟨σ, S.toks _, ?_⟩
  rw [valueAt_some]; exact q

/-! ### new dicts -/
theorem Ev.dict0I {pos : Pos} (q : ∀ a, σ a = Option.none → Q (.ref a) (σ.upd a (.dI [] 0))) : Ev B φ A f m (.Dict [] [] pos) σ Q E := fun s F S => by
  refine wpAny_Dict_empty ⟨_, S.alloc (c := .dI [] 0) (tk := s.toks) (fun b o e => Heap.get?_push_of_some _ e) ⟨[], ?_, rfl⟩, q _ S.fresh.1⟩
  exact ⟨_, #[], Heap.get?_push_size _ rfl, ⟨rfl, rfl, rfl⟩, rfl, (by intro e he; simp at he), .nil, .nil⟩
theorem Ev.dict0S {pos : Pos} (q : ∀ a, σ a = Option.none → Q (.ref a) (σ.upd a (.dS []))) : Ev B φ A f m (.Dict [] [] pos) σ Q E := fun s F S =>
  wpAny_Dict_empty ⟨_, S.alloc (c := .dS []) (tk := s.toks) (fun b o e => Heap.get?_push_of_some _ e) ⟨[], Heap.DictOf.new _, rfl⟩, q _ S.fresh.1⟩

/-! ### methods -/
theorem Gm.dict {s : Sig} {d : Addr} {name : Str} {id : String} {Q : Value → List Value → Sig → Prop} (hd : (∃ kvs ep, σ d = some (.dI kvs ep)) ∨ ∃ kvs, σ d = some (.dS kvs)) (slot : PySem.Slot "dict" name id) (hty : typeOf (.builtin id) = pure (.type "method_descriptor")) (q : Q (.builtin id) [.ref d] σ) :
    Gm B φ A (.ref d) name σ Q E := fun u pl hu s F S => by
  rw [er_ref hu]
  rcases hd with ⟨kvs, ep, hd⟩ | ⟨kvs, hd⟩
  · obtain ⟨_, hdd, _⟩ := S.look hd
    exact getMethod_builtin (S.tyDI hd) PySem.F.plainAttrs_dict slot hty hdd.dictOf.mapOf.noDict ⟨σ, S, q⟩
  · obtain ⟨_, hdd, _⟩ := S.look hd
    exact getMethod_builtin (S.tyDS hd) PySem.F.plainAttrs_dict slot hty hdd.mapOf.noDict ⟨σ, S, q⟩
theorem Gm.dItems {d : Addr} {kvs : List (Int × Val)} {ep : Nat} {Q : Value → List Value → Sig → Prop} (hd : σ d = some (.dI kvs ep)) (q : Q (.builtin "dict.items") [.ref d] σ) : Gm B φ A (.ref d) (Str.ofString "items") σ Q E := Gm.dict (s := σ) (.inl ⟨_, _, hd⟩) PySem.F.slot_dict_items PySem.F.type_dict_items q
theorem Gm.dValues {d : Addr} {kvs : List (Int × Val)} {ep : Nat} {Q : Value → List Value → Sig → Prop} (hd : σ d = some (.dI kvs ep)) (q : Q (.builtin "dict.values") [.ref d] σ) : Gm B φ A (.ref d) (Str.ofString "values") σ Q E := Gm.dict (s := σ) (.inl ⟨_, _, hd⟩) PySem.F.slot_dict_values PySem.F.type_dict_values q
theorem Gm.dGetI {d : Addr} {kvs : List (Int × Val)} {ep : Nat} {Q : Value → List Value → Sig → Prop} (hd : σ d = some (.dI kvs ep)) (q : Q (.builtin "dict.get") [.ref d] σ) : Gm B φ A (.ref d) (Str.ofString "get") σ Q E := Gm.dict (s := σ) (.inl ⟨_, _, hd⟩) PySem.F.slot_dict_get PySem.F.type_dict_get q
theorem Gm.dPop {d : Addr} {kvs : List (Str × Val)} {Q : Value → List Value → Sig → Prop} (hd : σ d = some (.dS kvs)) (q : Q (.builtin "dict.pop") [.ref d] σ) : Gm B φ A (.ref d) (Str.ofString "pop") σ Q E := Gm.dict (s := σ) (.inr ⟨_, hd⟩) PySem.F.slot_dict_pop PySem.F.type_dict_pop q
theorem Gm.dUpdate {d : Addr} {kvs : List (Str × Val)} {Q : Value → List Value → Sig → Prop} (hd : σ d = some (.dS kvs)) (q : Q (.builtin "dict.update") [.ref d] σ) : Gm B φ A (.ref d) (Str.ofString "update") σ Q E := Gm.dict (s := σ) (.inr ⟨_, hd⟩) PySem.F.slot_dict_update PySem.F.type_dict_update q

theorem Cl.dItems {d : Addr} {kvs : List (Int × Val)} {ep : Nat} (h : σ d = some (.dI kvs ep)) (q : ∀ a, σ a = none → Q (.ref a) (σ.upd a (itemsC d))) : Cl B φ A (.builtin "dict.items") [.ref d] [] σ Q E := fun us ks hu hk s F S => by
  obtain ⟨a, rfl, ha⟩ := one_arg hu; rw [no_kw hk, er_ref ha]
  obtain ⟨kv, hd, e⟩ := S.look h
  exact call_meetsIn PySem.F.slot_dict_items (S.tyDI h) PySem.F.entry_dict_items (PySem.F.args_dict_items_1 _) (meets_dict_items (intKind pg B.w) d (S.sys h)) ⟨⟨_, hd.dictOf⟩, ⟨_, S.alloc (c := itemsC d) (tk := s.toks) (fun b o e => Heap.get?_push_of_some _ e) (Heap.get?_push_size _ rfl), q _ S.fresh.1⟩⟩
theorem Cl.dValues {d : Addr} {kvs : List (Int × Val)} {ep : Nat} (h : σ d = some (.dI kvs ep)) (q : ∀ a, σ a = none → Q (.ref a) (σ.upd a (valuesC d))) : Cl B φ A (.builtin "dict.values") [.ref d] [] σ Q E := fun us ks hu hk s F S => by
  obtain ⟨a, rfl, ha⟩ := one_arg hu; rw [no_kw hk, er_ref ha]
  obtain ⟨kv, hd, e⟩ := S.look h
  exact call_meetsIn PySem.F.slot_dict_values (S.tyDI h) PySem.F.entry_dict_values (PySem.F.args_dict_values_1 _) (meets_dict_values (intKind pg B.w) d (S.sys h)) ⟨⟨_, hd.dictOf⟩, ⟨_, S.alloc (c := valuesC d) (tk := s.toks) (fun b o e => Heap.get?_push_of_some _ e) (Heap.get?_push_size _ rfl), q _ S.fresh.1⟩⟩
theorem Cl.dGetI {d : Addr} {kvs : List (Int × Val)} {ep : Nat} {k : Int} {x : Val} (h : σ d = some (.dI kvs ep)) (q1 : ∀ v, (k, v) ∈ kvs → Q v σ) (q2 : k ∉ kvs.map (·.1) → Q x σ) : Cl B φ A (.builtin "dict.get") [.ref d, .int k, x] [] σ Q E := fun us ks hu hk s F S => by
  obtain ⟨a, y, z, rfl, ha, hy, hz⟩ := three_arg hu; rw [no_kw hk, er_ref ha]
  obtain ⟨t, rfl⟩ := er_int hy; subst hz
  obtain ⟨kv, hd, e⟩ := S.look h
  subst e
  refine call_meetsIn PySem.F.slot_dict_get (S.tyDI h) PySem.F.entry_dict_get (PySem.F.args_dict_get_3 _ _ _) (meets_dict_get_default (intKind pg B.w) d int_key (S.sys h) z) ⟨_, hd.dictOf.mapOf, ?_⟩
  by_cases hm : k ∈ (kv.map fun p => (p.1, er p.2)).map (·.1)
  · obtain ⟨p, hp, e⟩ := List.mem_map.mp hm
    have hp' : (k, p.2) ∈ kv.map fun p => (p.1, er p.2) := by rw [← e]; exact hp
    obtain ⟨u, hu', e'⟩ := valueAt_mem hd.nodup hp'
    rw [hu']
    exact ⟨σ, S.toks _, by show Q (er u) σ; rw [e']; exact q1 _ hp'⟩
  · have : valueAt kv k = none := by
      have := valueAt_some (kvs := kv) (k := k)
      rw [decide_eq_false hm] at this
      simpa using this
    rw [this]
    exact ⟨σ, S.toks _, q2 hm⟩
/-- d.pop(k, x) where k is not there -/
theorem Cl.dPop {d : Addr} {kvs : List (Str × Val)} {k : Str} {x : Val} (h : σ d = some (.dS kvs)) (hn : k ∉ kvs.map (·.1)) (q : Q x σ) : Cl B φ A (.builtin "dict.pop") [.ref d, .str k, x] [] σ Q E := fun us ks hu hk s F S => by
  obtain ⟨a, y, z, rfl, ha, hy, hz⟩ := three_arg hu; rw [no_kw hk, er_ref ha]
  obtain ⟨t, rfl⟩ := er_str hy; subst hz
  obtain ⟨kv, hd, e⟩ := S.look h
  subst e
  refine call_meetsIn PySem.F.slot_dict_pop (S.tyDS h) PySem.F.entry_dict_pop (PySem.F.args_dict_pop_3 _ _ _) (meets_dict_pop_default (PySem.strKind pg B.w) d str_key (S.sys h) rfl z) ⟨kv, hd, ?_, ⟨σ, S.toks _, q⟩⟩
  have := valueAt_some (kvs := kv) (k := k)
  rw [decide_eq_false hn] at this
  simpa using this
/-- d.update(e) where d is empty -/
theorem Cl.dUpdate0 {d e : Addr} {more : List (Str × Val)} (h : σ d = some (.dS [])) (he : σ e = some (.dS more)) (hde : d ≠ e) (hz : more.length ≤ 1000) (q : Q .none (σ.upd d (.dS more))) : Cl B φ A (.builtin "dict.update") [.ref d, .ref e] [] σ Q E := fun us ks hu hk s F S => by
  obtain ⟨a, y, rfl, ha, hy⟩ := two_arg hu; rw [no_kw hk, er_ref ha, er_ref hy]
  obtain ⟨kv, hd, e1⟩ := S.look h
  obtain ⟨mv, hm, e2⟩ := S.look he
  have : kv = [] := by cases kv with
    | nil => rfl
    | cons _ _ => cases e1
  subst this e2
  rw [List.length_map] at hz
  refine call_meetsIn PySem.F.slot_dict_update (S.tyDS h) PySem.F.entry_dict_update (PySem.F.args_dict_update_2 _ _) (meets_dict_update (PySem.strKind pg B.w) d e hde (S.sys he)) ⟨[], mv, hd, hm, big_le (by simpa using by omega), fun h' h1 h2 hs => ⟨_, S.upd (c' := .dS (mv.map fun p => (p.1, er p.2))) h hs.extBut ⟨mv, ?_, rfl⟩, by exact q⟩⟩
  rw [merged_nil_of_nodup mv (let ⟨_, hd'⟩ := hm.dictAt; hd'.nodup)] at h1
  exact h1
/-- d.update(e) where e is empty -/
theorem Cl.dUpdateN {d e : Addr} {kvs : List (Str × Val)} (h : σ d = some (.dS kvs)) (he : σ e = some (.dS [])) (hde : d ≠ e) (hz : kvs.length ≤ 1000) (q : Q .none σ) : Cl B φ A (.builtin "dict.update") [.ref d, .ref e] [] σ Q E := fun us ks hu hk s F S => by
  obtain ⟨a, y, rfl, ha, hy⟩ := two_arg hu; rw [no_kw hk, er_ref ha, er_ref hy]
  obtain ⟨kv, hd, e1⟩ := S.look h
  obtain ⟨mv, hm, e2⟩ := S.look he
  have : mv = [] := by cases mv with
    | nil => rfl
    | cons _ _ => cases e2
  subst this e1
  rw [List.length_map] at hz
  refine call_meetsIn PySem.F.slot_dict_update (S.tyDS h) PySem.F.entry_dict_update (PySem.F.args_dict_update_2 _ _) (meets_dict_update (PySem.strKind pg B.w) d e hde (S.sys he)) ⟨kv, [], hd, hm, big_le (by simpa using by omega), fun h' h1 h2 hs => ⟨_, S.upd (c' := .dS (kv.map fun p => (p.1, er p.2))) h hs.extBut ⟨kv, h1, rfl⟩, ?_⟩⟩
  rw [Sig.upd_same h]; exact q
end
end Mine
end
section
open PySem PySem.W PySem.Calls PyProof.Rows
set_option maxRecDepth 100000
set_option Elab.async false
set_option linter.unusedVariables false
namespace Mine
/-! ### the dict of an object -/
theorem isStr_is {w : World} {v : Value} {n : Str} : v.isStr n = (PySem.strKind pg w).is n v := by cases v <;> rfl
section
variable {w : World} {es : Array DictEntry} {kvs : List (Str × Value)} {name : Str}
theorem noRefs (hk : KeysOf (PySem.strKind pg w) es) : es.toList.any (·.refKey) = false := by
  rw [List.any_eq_false]
  intro e he
  obtain ⟨k, h, _⟩ := hk e (by simpa using he)
  obtain ⟨t, ht⟩ := Value.isStrOf_shape (show Value.isStrOf k e.key = true from h)
  unfold DictEntry.refKey
  rw [ht]; simp
theorem find_is (hp : Pairs (PySem.strKind pg w) es.toList kvs) : (es.toList.find? (·.key.isStr name)).map (·.val) = valueAt kvs name := by
  have : (fun e : DictEntry => e.key.isStr name) = fun e => (PySem.strKind pg w).is name e.key := funext fun e => isStr_is
  rw [this]; exact hp.find name
theorem look_in {ep : Nat} {sl : Array (Option Value)} (hk : KeysOf (PySem.strKind pg w) es) (hp : Pairs (PySem.strKind pg w) es.toList kvs) : lookIn name (idict es ep sl) = some (valueAt kvs name) := by
  unfold lookIn
  dsimp only
  have h := find_is (name := name) hp
  cases q : es.toList.find? (·.key.isStr name) with
  | some e => rw [q] at h; simp only; rw [← h]; rfl
  | none => rw [q] at h; simp only; rw [noRefs hk]; simp only [Bool.false_eq_true, if_false]; rw [← h]; rfl
theorem valueAt_not {kv : List (Str × Value)} {k : Str} (h : k ∉ (kv.map fun p => (p.1, er p.2)).map (·.1)) : valueAt kv k = none := by
  have := valueAt_some (kvs := kv) (k := k)
  rw [decide_eq_false h] at this
  simpa using this
end
section
variable {B : Bd} {φ : Phi} {A : Around} {f : Fm} {m : LM} {σ : Sig} {E : Value → Shared → Prop} {s : Shared}
/-- an object and its dict -/
theorem St.inst (S : St B φ σ s) {x C d : Addr} {kvs : List (Str × Val)} {out : Bool} (hx : σ x = some (.inst C d)) (hd : σ d = some (.dD kvs out)) :
    ∃ (es : Array DictEntry) (ep : Nat) (kv : List (Str × Value)), s.heap.get? d = some (idict es ep (if out then #[none] else #[])) ∧ KeysOf (PySem.strKind pg B.w) es ∧ Pairs (PySem.strKind pg B.w) es.toList kv ∧ (kv.map (·.1)).Nodup ∧
      kv.map (fun p => (p.1, er p.2)) = kvs ∧ PySem.W.InstAt s.heap x (instOf C d) C (some (idict es ep (if out then #[none] else #[]))) := by
  obtain ⟨es, ep, kv, ho, hk, hp, hn, e⟩ := S.look hd
  exact ⟨es, ep, kv, ho, hk, hp, hn, e, S.look hx, rfl, rfl, ho⟩

/-! ### attributes -/
noncomputable def Ga (B : Bd) (φ : Phi) (A : Around) (a : Val) (name : Str) (σ : Sig) (Q : Val → Sig → Prop) (E : Value → Shared → Prop) : Prop :=
  ∀ u, er u = a → T B φ A (getAttr u name true) σ (fun v => Q (er v)) E
theorem Ev.attr {o : Expr} {name : Str} {pos : Pos} {Q : Val → Sig → Prop} (h : Ev B φ A f m o σ (fun a σ₁ => Ga B ((f.env.locals, .fr f m) :: φ) A a name σ₁ Q E) E)
    (hb : attributeBase o name f.env (eval o f.env) = eval o f.env := by rfl) : Ev B φ A f m (.Attribute o name pos) σ Q E := fun s F S => by
  show wpAny _ _ (eval (.Attribute o name pos) f.env) _ _ _
  rw [arm_eval_Attribute, hb]
  exact wpAny_bind (wpAny_mono (h s F S) (fun v s₁ ⟨σ₁, S₁, h₁⟩ => wpAny_bind (wpAny_standAt (wpAny_bind (wpAny_holding (wpAny_mono (h₁ v rfl s₁ F S₁) (fun r s₂ h₂ => wpAny_bind (wpAny_letTemporaryGo (wpAny_pure h₂))) fun _ _ e => e))))) fun _ _ e => e)
/-- the own dict goes before the class at this name -/
noncomputable def ownFirst (K : Frag) (C : Addr) (name : Str) : Bool := (clsIn K C).any (·.hasDict) && match findIn K (.ref C) name with
  | some none => true
  | some (some a) => (match specialIn K a "__get__" with
      | some none => true
      | some (some _) => takesIn K a == some false
      | none => false)
  | none => false
theorem findObj_first {K : Frag} {C : Addr} {name : Str} {od : Obj} {v : Value} (h : ownFirst K C name = true) (hl : lookIn name od = some (some v)) : findObj K C (some od) name = some (.value v) := by
  unfold ownFirst at h
  obtain ⟨h1, h2⟩ := Bool.and_eq_true_iff.mp h
  obtain ⟨cd, hc, hd⟩ := any_some h1
  have ho : W.ownOf cd (some od) name = some (some v) := by unfold W.ownOf; rw [if_pos hd]; exact hl
  unfold findObj
  rw [hc, Option.bind_some]
  split at h2
  · rename_i e; rw [e]; simp [ho]
  · rename_i a e
    rw [e, Option.bind_some]
    dsimp only
    split at h2
    · rename_i e2; rw [e2]; simp [ho]
    · rename_i g e2
      rw [e2, Option.bind_some]
      dsimp only
      rw [beq_iff_eq.mp h2]
      simp [ho]
    · cases h2
  · cases h2
theorem findObj_made {K : Frag} {C : Addr} {name : Str} {od : Obj} {a g : Value} (hc : hasDictIn K C = true) (ha : findIn K (.ref C) name = some (some a)) (hg : specialIn K a "__get__" = some (some g)) (ht : takesIn K a = some false) (hn : copiedNames.contains name = false)
    (hl : lookIn name od = some none) : findObj K C (some od) name = some (.bind g a) := by
  obtain ⟨cd, hc, hd⟩ := any_some hc
  have ho : W.ownOf cd (some od) name = some none := by unfold W.ownOf; rw [if_pos hd]; exact hl
  unfold findObj
  rw [hc, Option.bind_some, ha, Option.bind_some]
  dsimp only
  rw [hg, Option.bind_some]
  dsimp only
  rw [ht, Option.bind_some]
  dsimp only
  rw [ho, Option.bind_some]
  dsimp only
  rw [hn, Bool.false_and, if_neg (by simp)]
/-- an attribute in the instance's own dict -/
theorem Ga.own {x C d : Addr} {kvs : List (Str × Val)} {out : Bool} {name : Str} {v : Val} {Q : Val → Sig → Prop} (hx : σ x = some (.inst C d)) (hd : σ d = some (.dD kvs out)) (hv : (name, v) ∈ kvs)
    (hg : plainGet (K0 B.w) C name = true) (hf : ownFirst (K0 B.w) C name = true) (hr : ∃ a, v = .ref a) (q : Q v σ) : Ga B φ A (.ref x) name σ Q E := fun u hu s F S => by
  rw [er_ref hu]
  obtain ⟨es, ep, kv, ho, hk, hp, nd, e, I⟩ := S.inst hx hd
  subst e
  obtain ⟨y, hy, e⟩ := valueAt_mem nd hv
  obtain ⟨a, rfl⟩ := hr
  have hy' : y = .ref a := er_ref e
  exact get_value S.kin I (plainGet_of hg).1 (findObj_first hf ((look_in hk hp).trans (by rw [hy]))) (by rw [hy']; rfl) ⟨σ, S.toks _, by show Q (er y) σ; rw [e]; exact q⟩
/-- a method of the class -/
theorem Gm.own {x C d g : Addr} {kvs : List (Str × Val)} {out : Bool} {name : Str} {Q : Value → List Value → Sig → Prop} (hx : σ x = some (.inst C d)) (hd : σ d = some (.dD kvs out)) (hn : name ∉ kvs.map (·.1))
    (hg : plainGet (K0 B.w) C name = true) (hf : findIn (K0 B.w) (.ref C) name = some (some (.ref g))) (ht : isFn (K0 B.w) (.ref g) = true) (q : Q (.ref g) [.ref x] σ) : Gm B φ A (.ref x) name σ Q E := fun u pl hu s F S => by
  rw [er_ref hu]
  obtain ⟨es, ep, kv, ho, hk, hp, nd, e, I⟩ := S.inst hx hd
  subst e
  refine method_fn S.kin I (plainGet_of hg).1 (plainGet_of hg).2 hf (beq_iff_eq.mp ht) ?_ ⟨σ, S, q⟩
  show (lookIn name _).map _ = _
  rw [look_in hk hp, valueAt_not hn]; rfl
/-! ### stores into attributes -/
noncomputable def Sa (B : Bd) (φ : Phi) (A : Around) (a : Val) (name : Str) (x : Val) (σ : Sig) (Q : Sig → Prop) (E : Value → Shared → Prop) : Prop :=
  ∀ u v, er u = a → er v = x → T B φ A (setAttr u name v) σ (fun _ => Q) E
theorem Ex.asgAttr {o value : Expr} {name : Str} {ap pos : Pos} {Q : Fl → LM → Sig → Prop} (h : Ev B φ A f m value σ (fun v σ₁ => Ev B φ A f m o σ₁ (fun a σ₂ => Sa B ((f.env.locals, .fr f m) :: φ) A a name v σ₂ (fun σ₃ => Q .next m σ₃) E) E) E)
    (hs : swapsWith value (some (.Attribute o name ap)) pos.line f.env = pure false := by rfl) : Ex B φ A f m (.Assign [.Attribute o name ap] value pos) σ Q E := fun s F S =>
  plainObj_wpAny_Assign_Attribute (wpAny_mono (h s F S) (fun _ s₁ ⟨_, S₁, h₁⟩ => wpAny_mono (h₁ s₁ F S₁) (fun _ s₂ ⟨_, S₂, h₂⟩ => wpAny_mono (h₂ _ _ rfl rfl s₂ F S₂) (fun _ _ ⟨σ₃, S₃, q⟩ => ⟨m, σ₃, S₃, q⟩) fun _ _ e => e) fun _ _ e => e) fun _ _ e => e) hs
theorem new_pairs {w : World} {es : Array DictEntry} {ep : Nat} {kv : List (Str × Value)} {name : Str} {v : Value} {tk : Tok} (hk : KeysOf (PySem.strKind pg w) es) (hp : Pairs (PySem.strKind pg w) es.toList kv) (nd : (kv.map (·.1)).Nodup) (hn : valueAt kv name = none) :
    KeysOf (PySem.strKind pg w) (es.push ⟨(PySem.strKind pg w).hash name, .str name tk, v⟩) ∧ Pairs (PySem.strKind pg w) (es.push ⟨(PySem.strKind pg w).hash name, .str name tk, v⟩).toList (kv ++ [(name, v)]) ∧ ((kv ++ [(name, v)]).map (·.1)).Nodup := by
  have hkey : (PySem.strKind pg w).is name (.str name tk) = true := by show Value.isStrOf name (.str name tk) = true; simp [Value.isStrOf]
  refine ⟨hk.push hkey _, ?_, ?_⟩
  · have := hp.append hkey ((PySem.strKind pg w).hash name) v
    obtain ⟨l⟩ := es
    simpa using this
  · rw [List.map_append, List.nodup_append]
    refine ⟨nd, by simp, fun a ha b hb => ?_⟩
    simp only [List.map_cons, List.map_nil, List.mem_singleton] at hb
    subst hb
    intro e
    subst e
    have := valueAt_isSome_eq_any kv a
    rw [hn] at this
    obtain ⟨p, hp, e⟩ := List.mem_map.mp ha
    have h2 : kv.any (fun kv => decide (kv.1 = a)) = true := List.any_eq_true.mpr ⟨p, hp, by simpa using e⟩
    rw [h2] at this
    cases this
theorem Sa.new {x C d : Addr} {kvs : List (Str × Val)} {out : Bool} {name : Str} {v : Val} {Q : Sig → Prop} (hx : σ x = some (.inst C d)) (hd : σ d = some (.dD kvs out)) (hn : name ∉ kvs.map (·.1)) (hz : kvs.length ≤ 900)
    (hs : findIn (K0 B.w) (.ref C) "__setattr__" = some (some (.builtin "object.__setattr__"))) (hp : plainOver (K0 B.w) C = true) (ht : takerIn (K0 B.w) C name = some none) (hh : hasDictIn (K0 B.w) C = true)
    (q : Q (σ.upd d (.dD (kvs ++ [(name, v)]) out))) : Sa B φ A (.ref x) name v σ Q E := fun u y hu hy s F S => by
  rw [er_ref hu]; subst hy
  obtain ⟨es, ep, kv, ho, hk, hpr, nd, e, I⟩ := S.inst hx hd
  subst e
  have hv := valueAt_not hn
  refine set_plain S.kin I hs ?_
  generalize hS : ({ s with toks := s.toks + 1 } : Shared) = s₁
  have hheap : s₁.heap = s.heap := by subst hS; rfl
  have X₁ : (K0 B.w).In s₁.heap := by rw [hheap]; exact S.kin
  have I₁ : PySem.W.InstAt s₁.heap x (instOf C d) C (some (idict es ep (if out then #[none] else #[]))) := by rw [hheap]; exact I
  refine osa_open X₁ I₁ hp ht fun b => ?_
  obtain ⟨cd, hc, hcd⟩ := any_some hh
  have hx' : s₁.heap.get? x = some (instOf C d) := by rw [hheap]; exact S.look hx
  have hd' : s₁.heap.get? d = some (idict es ep (if out then #[none] else #[])) := by rw [hheap]; exact ho
  refine wpAny_bind (wpAny_pure (wpAny_bind (wpAny_bind (wpAny_loadPart hx' (wpAny_bind ((looks_clsIn X₁ hc).here ?_))))))
  rw [hcd]
  refine wpAny_pure (a := some d) (wpAny_bind (wpAny_pure (wpAny_bind ?_)))
  unfold nsSet
  refine wpAny_bind (wpAny_bind (wpAny_askSetting (wpAny_pure (wpAny_bind (wpAny_mkText (wpAny_bind (wpAny_loadPart hd' ?_)))))))
  dsimp only [idict]
  have c0 : (!es.any (·.key.isStr name) && es.any (·.refKey)) = false := by
    have := noRefs hk
    rw [Array.any_toList] at this
    rw [this, Bool.and_false]
  rw [aRefKeyMayBeTheName_at, c0]
  refine wpAny_updatePart hd' ?_
  have hfi : es.findIdx? (·.key.isStr name) = none := by
    have h := find_is (name := name) hpr
    rw [hv, Option.map_eq_none_iff, List.find?_eq_none] at h
    rw [Array.findIdx?_eq_none_iff]
    intro e he
    have := h e (by simpa using he)
    simpa using this
  obtain ⟨n1, n2, n3⟩ := new_pairs (w := B.w) (ep := ep) (v := y) (tk := s₁.toks) hk hpr nd hv
  have put : Obj.putName name (PyData.keyHash B.w.params name) (.str name s₁.toks) y (idict es ep (if out then #[none] else #[])) = idict (es.push ⟨(PySem.strKind pg B.w).hash name, .str name s₁.toks, y⟩) (ep + 1) (if out then #[none] else #[]) := by
    rw [Obj.putName_eq]
    unfold Obj.putNameByArray idict
    simp only [hfi]
    rfl
  have hd2 := Heap.get?_update_self (Obj.putName name (PyData.keyHash B.w.params name) (.str name s₁.toks) y) hd' (by rw [put]; rfl)
  rw [put] at hd2
  have hsz : (es.push ⟨(PySem.strKind pg B.w).hash name, .str name s₁.toks, y⟩).size ≤ sizeLine := by
    have h1 := n2.length
    rw [List.length_append] at h1
    simp only [Array.length_toList, List.length_cons, List.length_nil] at h1
    rw [List.length_map] at hz
    rw [h1, sizeLine_eq]; omega
  show wpAny (M0 B.w) A.in1 (lookBehind d (some (.str name 0)) >>= fun _ => ret .none) _ _ { s₁ with heap := s₁.heap.update d (Obj.putName name (PyData.keyHash B.w.params name) (.str name s₁.toks) y), toks := s₁.toks + 1 }
  refine wpAny_bind (wpAny_lookBehind hd2 (by show Data.pastItsLine (.dict _ _) = _; exact pastItsLine_dict (Nat.le_succ_of_le hsz)) ?_)
  refine wpAny_pure ?_
  subst hS
  refine ⟨_, S.upd (c' := .dD (kv.map (fun p => (p.1, er p.2)) ++ [(name, er y)]) out) hd (fun b o hb e => (Heap.get?_update_ne _ _ _ _ hb).trans e) ⟨_, _, kv ++ [(name, y)], hd2, n1, n2, n3, by rw [List.map_append]; rfl⟩, q⟩
end
end Mine
end
section
open PySem PySem.W PySem.Calls PyProof.Rows
set_option maxRecDepth 100000
set_option Elab.async false
set_option linter.unusedVariables false
namespace Mine
section
variable {B : Bd} {φ : Phi} {A : Around} {f : Fm} {m : LM} {σ : Sig} {E : Value → Shared → Prop}
theorem St.dd {s : Shared} (S : St B φ σ s) {d : Addr} {kvs : List (Str × Val)} {out : Bool} (hd : σ d = some (.dD kvs out)) :
    ∃ (es : Array DictEntry) (ep : Nat) (kv : List (Str × Value)), s.heap.get? d = some (idict es ep (if out then #[none] else #[])) ∧ KeysOf (PySem.strKind pg B.w) es ∧ Pairs (PySem.strKind pg B.w) es.toList kv ∧ (kv.map (·.1)).Nodup ∧
      kv.map (fun p => (p.1, er p.2)) = kvs := S.look hd
theorem St.tyDD {s : Shared} (S : St B φ σ s) {d : Addr} {kvs : List (Str × Val)} {out : Bool} (hd : σ d = some (.dD kvs out)) : s.TypeIs (.ref d) "dict" := by
  obtain ⟨es, ep, kv, ho, _⟩ := S.dd hd; exact ⟨_, ho, rfl⟩
theorem idx_is {w : World} {es : Array DictEntry} {kv : List (Str × Value)} {name : Str} (hp : Pairs (PySem.strKind pg w) es.toList kv) (hv : valueAt kv name = none) : (es.findIdx? fun e => (PySem.strKind pg w).is name e.key) = none := by
  have h := hp.find name
  rw [hv, Option.map_eq_none_iff, List.find?_eq_none] at h
  rw [Array.findIdx?_eq_none_iff]
  intro e he
  have := h e (by simpa using he)
  simpa using this
theorem Gm.dGetD {d : Addr} {kvs : List (Str × Val)} {out : Bool} {Q : Value → List Value → Sig → Prop} (hd : σ d = some (.dD kvs out)) (q : Q (.builtin "dict.get") [.ref d] σ) : Gm B φ A (.ref d) (Str.ofString "get") σ Q E := fun u pl hu s F S => by
  rw [er_ref hu]
  obtain ⟨es, ep, kv, ho, _⟩ := S.dd hd
  exact getMethod_builtin (S.tyDD hd) PySem.F.plainAttrs_dict PySem.F.slot_dict_get PySem.F.type_dict_get (fun a e => by cases e; exact ⟨_, ho, rfl⟩) ⟨σ, S, q⟩
/-- d.get(k, x), k not there -/
theorem Cl.dGetD {d : Addr} {kvs : List (Str × Val)} {out : Bool} {k : Str} {x : Val} {Q : Val → Sig → Prop} (h : σ d = some (.dD kvs out)) (hn : k ∉ kvs.map (·.1)) (q : Q x σ) : Cl B φ A (.builtin "dict.get") [.ref d, .str k, x] [] σ Q E := fun us ks hu hk s F S => by
  obtain ⟨a, y, z, rfl, ha, hy, hz⟩ := three_arg hu; rw [no_kw hk, er_ref ha]
  obtain ⟨t, rfl⟩ := er_str hy; subst hz
  obtain ⟨es, ep, kv, ho, hko, hp, nd, e⟩ := S.dd h
  subst e
  have hv := valueAt_not hn
  refine wpAny_call_entry PySem.F.slot_dict_get (S.tyDD h) PySem.F.entry_dict_get ?_ (PySem.F.args_dict_get_3 _ _ _)
  show wpAny _ _ (dictGet d (.str k t) >>= _) _ _ s
  refine wpAny_bind ?_
  unfold dictGet
  try with_reducible refine wpAny_holding ?_
  refine wpAny_bind ((PySem.strKind pg B.w).pyHash str_key (wpAny_bind (wpAny_dictFind_of (knd := PySem.strKind pg B.w) (s := { s with toks := s.toks + 1 }) str_key ho rfl hko ?_)))
  rw [idx_is hp hv]
  refine wpAny_pure ?_
  show wpAny _ _ (Builtin.Dict.missed d (.str k t) >>= _) _ _ _
  exact wpAny_bind (wpAny_missed_other (S.sys h) (wpAny_pure ⟨z, rfl, σ, S.toks _, q⟩))
/-- d[k] = v, k not there -/
theorem Si.dD {d : Addr} {kvs : List (Str × Val)} {out : Bool} {k : Str} {v : Val} {Q : Sig → Prop} (h : σ d = some (.dD kvs out)) (hn : k ∉ kvs.map (·.1)) (hz : kvs.length ≤ 900) (q : Q (σ.upd d (.dD (kvs ++ [(k, v)]) out))) : Si B φ A (.ref d) (.str k) v σ Q E := fun u x y hu hx hy s F S => by
  rw [er_ref hu]; obtain ⟨t, rfl⟩ := er_str hx; subst hy
  obtain ⟨es, ep, kv, ho, hko, hp, nd, e⟩ := S.dd h
  subst e
  have hv := valueAt_not hn
  have hT := S.tyDD h
  obtain ⟨n1, n2, n3⟩ := new_pairs (w := B.w) (ep := ep) (v := y) (tk := t) hko hp nd hv
  have hsz : es.size ≤ sizeLine := by
    have h1 := hp.length
    simp only [Array.length_toList] at h1
    rw [List.length_map] at hz
    rw [h1, sizeLine_eq]; omega
  unfold setItem
  try with_reducible refine wpAny_holding ?_
  refine wpAny_bind (wpAny_sequenceKey hT (by decide) ?_)
  refine wpAny_bind (wpAny_callSpecial?_slot (name := Str.ofString "__setitem__") hT slot_dict_setitem
    (wpAny_call_entry slot_dict_setitem hT entry_dict_setitem ?_ (args_dict_setitem _ _ _)))
  show wpAny _ _ (Builtin.Dict.notOrdered "__setitem__" ⟨[.ref d, .str k t, y], []⟩ >>= _) _ _ s
  refine wpAny_bind (wpAny_notOrdered_dict hT ?_)
  show wpAny _ _ (dictSet d (.str k t) y >>= _) _ _ s
  refine wpAny_bind ?_
  unfold dictSet
  try with_reducible refine wpAny_holding ?_
  refine wpAny_bind ((PySem.strKind pg B.w).pyHash str_key ?_)
  unfold dictSetHashed
  try with_reducible refine wpAny_holding ?_
  refine wpAny_bind (wpAny_dictFind_of (knd := PySem.strKind pg B.w) (s := { s with toks := s.toks + 1 }) str_key ho rfl hko ?_)
  rw [idx_is hp hv]
  refine wpAny_bind (wpAny_rule (wpAny_updateDictKeys (hz := hsz) (s := { s with toks := s.toks + 1 }) ho rfl (wpAny_pure ⟨.none, rfl, wpAny_pure ⟨_, S.upd (c' := .dD (kv.map (fun p => (p.1, er p.2)) ++ [(k, er y)]) out) h (fun b o hb e => (Heap.get?_update_ne _ _ _ _ hb).trans e) ⟨_, ep + 1, kv ++ [(k, y)], Heap.get?_update_self _ ho rfl, n1, n2, n3, by rw [List.map_append]; rfl⟩, q⟩⟩)))
end

/-! ### triples in contexts without the finaliser -/
noncomputable def TN (B : Bd) (φ : Phi) (A : Around) {α : Type} (t : Sem α) (σ : Sig) (Q : α → Sig → Prop) (E : Value → Shared → Prop) : Prop :=
  ∀ s, FrOk A φ → St B φ σ s → wpN (M0 B.w) A t (fun a s' => ∃ σ', St B φ σ' s' ∧ Q a σ') E s
noncomputable def XN (B : Bd) (φ : Phi) (A : Around) (f : Fm) (m : LM) {α : Type} (t : Sem α) (σ : Sig) (Q : α → LM → Sig → Prop) (E : Value → Shared → Prop) : Prop :=
  ∀ s, FrOk A ((f.env.locals, .fr f m) :: φ) → St B ((f.env.locals, .fr f m) :: φ) σ s → wpN (M0 B.w) A t (fun a s' => ∃ m' σ', St B ((f.env.locals, .fr f m') :: φ) σ' s' ∧ Q a m' σ') E s
noncomputable def EvN (B : Bd) (φ : Phi) (A : Around) (f : Fm) (m : LM) (e : Expr) (σ : Sig) (Q : Val → Sig → Prop) (E : Value → Shared → Prop) : Prop := TN B ((f.env.locals, .fr f m) :: φ) A (eval e f.env) σ (fun v => Q (er v)) E
noncomputable def ExN (B : Bd) (φ : Phi) (A : Around) (f : Fm) (m : LM) (st : Stmt) (σ : Sig) (Q : Fl → LM → Sig → Prop) (E : Value → Shared → Prop) : Prop := XN B φ A f m (exec st f.env) σ (fun r => Q (erF r)) E
noncomputable def EsN (B : Bd) (φ : Phi) (A : Around) (f : Fm) (m : LM) (st : List Stmt) (σ : Sig) (Q : Fl → LM → Sig → Prop) (E : Value → Shared → Prop) : Prop := XN B φ A f m (execs st f.env) σ (fun r => Q (erF r)) E
noncomputable def ClN (B : Bd) (φ : Phi) (A : Around) (g : Value) (vs : List Val) (kw : List (Str × Val)) (σ : Sig) (Q : Val → Sig → Prop) (E : Value → Shared → Prop) : Prop :=
  ∀ us ks, us.map er = vs → ks.map (fun p : Str × Value => (p.1, er p.2)) = kw → TN B φ A (PySem.call g us ks) σ (fun v => Q (er v)) E
section
variable {B : Bd} {φ : Phi} {A : Around} {f : Fm} {m : LM} {σ : Sig} {E : Value → Shared → Prop} {Q : Fl → LM → Sig → Prop}
theorem ExN.of {st : Stmt} (h : Ex B φ A f m st σ Q E) : ExN B φ A f m st σ Q E := fun s F S => .of (h s F S)
theorem EsN.of {st : List Stmt} (h : Es B φ A f m st σ Q E) : EsN B φ A f m st σ Q E := fun s F S => .of (h s F S)
noncomputable def SeqN (B : Bd) (φ : Phi) (A : Around) (f : Fm) (rest : List Stmt) (Q : Fl → LM → Sig → Prop) (E : Value → Shared → Prop) : Fl → LM → Sig → Prop
  | .next, m, σ => EsN B φ A f m rest σ Q E
  | r, m, σ => Q r m σ
theorem EsN.cons {st : Stmt} {rest : List Stmt} (h : ExN B φ A f m st σ (SeqN B φ A f rest Q E) E) : EsN B φ A f m (st :: rest) σ Q E := fun s F S =>
  seqN (wpN.mono (h s F S) (fun r s₁ ⟨m₁, σ₁, S₁, h₁⟩ => by
    cases r with
    | next => exact h₁ s₁ F.turn S₁
    | brk => exact ⟨m₁, σ₁, S₁, h₁⟩
    | cont => exact ⟨m₁, σ₁, S₁, h₁⟩
    | ret v => exact ⟨m₁, σ₁, S₁, h₁⟩) fun _ _ e => e)
theorem SeqN.next {rest : List Stmt} (h : EsN B φ A f m rest σ Q E) : SeqN B φ A f rest Q E .next m σ := h
theorem ExN.asg {x : Str} {xp pos : Pos} {e : Expr} (h : EvN B φ A f m e σ (fun v σ₁ => ∃ m', Sto m x v m' ∧ Q .next m' σ₁) E)
    (hs : swapsWith e (some (.Name x xp)) pos.line f.env = pure false := by rfl) : ExN B φ A f m (.Assign [.Name x xp] e pos) σ Q E := fun s F S =>
  assignN hs (wpN.mono (h s F S) (fun v s₁ ⟨σ₁, S₁, m', h₁, q⟩ => wpAny_mono (X.stoLoc (Q := fun _ => Q .next) (E := E) h₁ q s₁ F S₁) (fun _ _ z => z) fun _ _ e => e) fun _ _ e => e)
theorem ExN.ret {e : Expr} {pos : Pos} (h : EvN B φ A f m e σ (fun v σ' => Q (.ret v) m σ') E) : ExN B φ A f m (.Return (some e) pos) σ Q E := fun s F S =>
  returnN (wpN.mono (h s F S) (fun _ _ ⟨σ', S', q⟩ => ⟨m, σ', S', q⟩) fun _ _ e => e)
/-- a try whose body does not raise -/
theorem ExN.try {body : List Stmt} {h₀ : ExceptHandler} {hs : List ExceptHandler} {pos : Pos} (h : EsN B φ A f m body σ (fun r m' σ' => match r with | .next => Q .next m' σ' | r => Q r m' σ') (fun _ _ => False)) : ExN B φ A f m (.Try body (h₀ :: hs) [] [] pos) σ Q E := fun s F S =>
  tryN (wpN.mono (h s F S) (fun r s₁ ⟨m₁, σ₁, S₁, h₁⟩ => by
    cases r with
    | next => exact wpAny_execs_nil ⟨m₁, σ₁, S₁, h₁⟩
    | brk => exact ⟨m₁, σ₁, S₁, h₁⟩
    | cont => exact ⟨m₁, σ₁, S₁, h₁⟩
    | ret v => exact ⟨m₁, σ₁, S₁, h₁⟩) fun _ _ e => e.elim)
theorem Ex.try {body : List Stmt} {h₀ : ExceptHandler} {hs : List ExceptHandler} {pos : Pos} (h : Es B φ A f m body σ (fun r m' σ' => match r with | .next => Q .next m' σ' | r => Q r m' σ') (fun _ _ => False)) : Ex B φ A f m (.Try body (h₀ :: hs) [] [] pos) σ Q E := fun s F S =>
  wpAny_Try_except (wpAny_mono (h s F S) (fun r s₁ ⟨m₁, σ₁, S₁, h₁⟩ => by
    cases r with
    | next => exact wpAny_execs_nil ⟨m₁, σ₁, S₁, h₁⟩
    | brk => exact ⟨m₁, σ₁, S₁, h₁⟩
    | cont => exact ⟨m₁, σ₁, S₁, h₁⟩
    | ret v => exact ⟨m₁, σ₁, S₁, h₁⟩) fun _ _ e => e.elim)
/-- f(..), f a global name -/
theorem EvN.callG {x : Str} {xp pos : Pos} {g : Value} {es : List Expr} {Q : Val → Sig → Prop} (hx : (x, g) ∈ f.globs)
    (h : El B φ A f m pos es σ (fun vs σ₁ => Kp B ((f.env.locals, .fr f m) :: φ) g σ₁ ∧ ClN B ((f.env.locals, .fr f m) :: φ) A g vs [] σ₁ Q E) E)
    (hg : ∀ a, er a = er g → a = g := by intro a h; exact er_ref h)
    (hp : (starEach es f.env).any (·.1) = false := by rfl) : EvN B φ A f m (.Call (.Name x xp) es [] pos) σ Q E := fun s F S => by
  refine callNameN (wpAny_mono (Ev.glob (B := B) (φ := φ) (A := A) (f := f) (m := m) (σ := σ) (E := E) (pos := xp) (Q := fun v σ' => v = er g ∧ σ' = σ) hx ⟨rfl, rfl⟩ s F S) (fun v s₁ ⟨σ₁, S₁, e, e'⟩ => ?_) fun _ _ e => e)
  subst e'
  rw [hg _ e]
  refine callWithN (P := fun hp => ∃ k, (k = Keeper.frame ∨ k = Keeper.machine ∨ k = Keeper.boundFrame) ∧ Looks (M0 B.w) hp (keeperOf g) k) (by rw [starFree hp]; rfl) (fun _ x => x)
    (evalArgs_gen (starFree hp) rfl (wpAny_mono (h s₁ F S₁) (fun vs s₂ ⟨σ₂, S₂, h₂⟩ => ?_) fun _ _ e => e))
  exact wpAny_evalAll_nil ⟨h₂.1 s₂ S₂, h₂.2 _ _ rfl rfl s₂ F S₂⟩
/-- a def in general -/
theorem ClN.defC {a : Addr} {o : Obj} {fd : FuncData} {body : List Stmt} {vs : List Val} {kw : List (Str × Val)} {ls : List Str} {gl : List (Str × Value)} {Q : Val → Sig → Prop} {k : Nat}
    (hA : AOk A (k + 1)) (hfo : ∀ s, St B φ σ s → s.heap.get? a = some o ∧ s.heap.CodeRec fd.code fd.qualname) (hd : o.data = .func fd) (hb : fd.body = .stmts body)
    (hchk : fmChk fd.scope ls (cellNames fd.scope.names ++ fd.closure.map (·.1)) (gl.map (·.1)) = true) (hnd : (cellNames fd.scope.names ++ fd.closure.map (·.1)).Nodup) (hgv : ∀ p ∈ gl, GVal B.w p.1 p.2)
    (h : ∀ us ks, us.map er = vs → ks.map (fun p : Str × Value => (p.1, er p.2)) = kw → T B φ A.in1 (bindArgs fd ⟨us, ks⟩) σ (fun binds σ₁ => ∀ env A' E' as, AOk A' k → A' = A.deeper env → E' = ELeave B.w A' env E → PassesOwn (M0 B.w) A' env E' →
      as.length = (cellNames fd.scope.names).length → freshCs as σ₁ → BindK (ownCs fd.scope.names as fd.closure)
        (fun m σ' => EsN B φ A' ⟨env, ownCs fd.scope.names as fd.closure, gl⟩ m body σ' (fun r _ σ'' => Q (retOf r) σ'') E') (binds.map fun p => (p.1, er p.2)) (nones ls) (newCs as σ₁)) E)
    (hgl : fd.globals = mainGlobals := by rfl) (hbl : fd.builtins = builtinsNs := by rfl)
    (hco : fd.scope.isCoroutine = false := by rfl) (hgen : fd.scope.isGenerator = false := by rfl) (hk : fd.scope.kind = .function := by rfl) :
    ClN B φ A (.ref a) vs kw σ Q E := fun us ks hu hks s F S => by
  refine wpN.call (codeN.function (by have := hA.d; show A.depth < 1000; omega) (hfo s S).1 hd hco hgen hb (hfo s S).2 (wpAny_mono (h us ks hu hks s F.in1 S) (fun binds s₁ ⟨σ₁, S₁, h₁⟩ => ?_) fun _ _ e => e))
  rw [hgl, hbl]
  refine newEnv_T (ls := ls) (gl := gl) (fun L c => FrOk.cons F.in1) S₁ hchk hnd hgv (fun e he => by cases he) fun as hl hfr => ?_
  generalize henv : newEnv fd.scope s₁.heap.objs.size mainGlobals (((cellNames fd.scope.names).zip as).reverse ++ fd.closure) (fd.qualname ++ ".<locals>.") (some a) fd.code none builtinsNs = env₀
  have hloc₀ : env₀.locals = s₁.heap.objs.size := by rw [← henv]; rfl
  have hscope₀ : env₀.scope = fd.scope := by rw [← henv]; rfl
  have hframe₀ : env₀.frame = some s₁.heap.objs.size := by rw [← henv]; rfl
  have h₂ := h₁ env₀ (A.deeper env₀) (ELeave B.w (A.deeper env₀) env₀ E) as (hA.deeper (Nat.le_refl _)) rfl rfl ELeave.passes hl hfr
  have key : ∀ (bs : List (Str × Val)) (m : LM) (τ : Sig) (K K' : LM → Sig → Prop), (∀ m τ, K m τ → K' m τ) → BindK (ownCs fd.scope.names as fd.closure) K bs m τ → BindK (ownCs fd.scope.names as fd.closure) K' bs m τ := by
    intro bs
    induction bs with
    | nil => intro m τ K K' i hh; exact i _ _ hh
    | cons p r ih =>
      intro m τ K K' i hh
      rcases hh with ⟨m', a1, a2⟩ | ⟨c, o, a1, a2, a3⟩
      · exact .inl ⟨m', a1, ih _ _ _ _ i a2⟩
      · exact .inr ⟨c, o, a1, a2, ih _ _ _ _ i a3⟩
  refine key _ _ _ _ _ (fun m τ hEs s₂ env hloc S₂ he => ?_) h₂
  subst he
  refine ⟨S₂.drop.nolim, codeN.func ?_⟩
  subst henv
  refine wpN.mono (hEs s₂ (F.deeper (by rw [hscope₀, hk]; decide) (by rw [hframe₀, hloc₀])) (by rw [hloc₀]; exact S₂)) (fun r s' hr => ?_) fun _ _ e => e
  obtain ⟨m', σ', S'', q⟩ := hr
  refine ⟨σ', S''.drop, ?_⟩
  cases r <;> exact q
end
end Mine
end
section
open PySem PySem.W PySem.Calls PyProof.Rows
set_option maxRecDepth 100000
set_option Elab.async false
set_option linter.unusedVariables false
namespace Mine
section
variable {w : World} {A : Around} {E : Value → Shared → Prop} {R : Result → Shared → Prop} {s : Shared} {K : Frag} {x C dx p C0 : Addr}
theorem entry_fdict : entryFor table "function.__dict__" = some Builtin.«function.__dict__» := entryFor_of_fast (by kernel_rfl)
/-- what stands ahead of the getter's own tree -/
theorem getset_head {M : Model} {A : Around} {n : Str} {t : Tok} {st tp : Value} {Q : PySem.Fin → Shared → Prop} (X : K.In s.heap) (hx : s.heap.get? x = some (instOf C dx))
    (hp : recIn K p "getset_descriptor" = some [.str n t, .ref C0, .builtin "function.__dict__", st]) (hm : mroIn K C (.ref C0) = some true)
    (h : Q (.again (.builtin "function.__dict__" ⟨[.ref x], []⟩)) s) : wpAny M A (Builtin.«getset_descriptor.__get__» ⟨[.ref p, .ref x, tp], []⟩) Q E s := by
  obtain ⟨d, sl, ho⟩ := rec_of X hp
  have LT : Looks M s.heap (typeOf (.ref x)) (.ref C) := (Looks.ld (part := none) hx).andThen .now
  have LI : Looks M s.heap (isInstance (.ref x) (.ref C0)) true := LT.andThen (looks_mroIn X hm)
  have F0 : Looks M s.heap (field (.ref p) 0) (.str n t) := looks_field ho 0 rfl
  have F1 : Looks M s.heap (field (.ref p) 1) (.ref C0) := looks_field ho 1 rfl
  have F2 : Looks M s.heap (field (.ref p) 2) (.builtin "function.__dict__") := looks_field ho 2 rfl
  unfold Builtin.«getset_descriptor.__get__» Builtin.Getset_descriptor.descrGet
  rw [dga_obj]
  refine wpAny_bind (wpAny_pure ?_)
  unfold Builtin.Getset_descriptor.descrGetter Builtin.Getset_descriptor.descrCheckInstance Builtin.Getset_descriptor.descrNameAndClass
  refine wpAny_bind (wpAny_bind (wpAny_bind (F0.here (wpAny_bind (F1.here (wpAny_pure (wpAny_bind (LI.here ?_))))))))
  refine wpAny_pure (a := ()) ?_
  refine wpAny_bind (F2.here ?_)
  refine wpAny_bind (wpAny_rule (wpAny_bind ?_))
  unfold Builtin.Getset_descriptor.descrItself
  refine wpAny_bind (wpAny_fieldsOf ho rfl ?_)
  refine wpAny_pure ?_
  exact wpAny_pure h
theorem getsetN {cd : ClassData} {es : Array DictEntry} {ep : Nat} {n : Str} {t : Tok} {st tp : Value} (X : K.In s.heap) (hx : s.heap.get? x = some (instOf C dx)) (hd : s.heap.get? dx = some (idict es ep #[])) (hc : clsIn K C = some cd) (hcd : cd.hasDict = true)
    (h1 : mroIn K C (.type "staticmethod") = some false) (h2 : mroIn K C (.type "classmethod") = some false) (hst : nsIn K cStatics "_thread.count" = some none)
    (hp : recIn K p "getset_descriptor" = some [.str n t, .ref C0, .builtin "function.__dict__", st]) (hm : mroIn K C (.ref C0) = some true)
    (h : R (.ok (.ret (.ref dx))) { s with heap := s.heap.update dx fun o => if o.slots.isEmpty then { o with slots := #[Option.none] } else o }) :
    codeN (model pg w) A (.call (.builtin "getset_descriptor.__get__") ⟨[.ref p, .ref x, tp], []⟩) R s := by
  obtain ⟨d, sl, ho⟩ := rec_of X hp
  refine codeN.callBuiltin (by decide) KF.slot_gs.plain KF.entry_gs (KF.slot_gs.check _ _ _ _ _ _ _ _ ⟨_, ho, rfl⟩ (KF.args_gs _ _ _) ?_)
  refine wpN.of (getset_head X hx hp hm ⟨Code.quiet_builtin _ (by decide +kernel), ?_⟩)
  refine codeN.builtin (by decide) entry_fdict ?_
  exact dictTreeN X hx hd hc hcd h1 h2 hst h
theorem getsetA {cd : ClassData} {es : Array DictEntry} {ep : Nat} {n : Str} {t : Tok} {st tp : Value} (X : K.In s.heap) (hx : s.heap.get? x = some (instOf C dx)) (hd : s.heap.get? dx = some (idict es ep #[none])) (hc : clsIn K C = some cd) (hcd : cd.hasDict = true)
    (h1 : mroIn K C (.type "staticmethod") = some false) (h2 : mroIn K C (.type "classmethod") = some false)
    (hp : recIn K p "getset_descriptor" = some [.str n t, .ref C0, .builtin "function.__dict__", st]) (hm : mroIn K C (.ref C0) = some true)
    (h : R (.ok (.ret (.ref dx))) { s with heap := s.heap.update dx fun o => if o.slots.isEmpty then { o with slots := #[Option.none] } else o }) :
    codeAny (model pg w) A (.call (.builtin "getset_descriptor.__get__") ⟨[.ref p, .ref x, tp], []⟩) R s := by
  obtain ⟨d, sl, ho⟩ := rec_of X hp
  refine codeAny_call_builtin KF.slot_gs.plain KF.entry_gs (KF.slot_gs.check _ _ _ _ _ _ _ _ ⟨_, ho, rfl⟩ (KF.args_gs _ _ _) ?_)
  refine getset_head X hx hp hm ⟨Code.quiet_builtin _ (by decide +kernel), ?_⟩
  refine codeAny_builtin entry_fdict ?_
  have LT : Looks (model pg w) s.heap (typeOf (.ref x)) (.ref C) := (Looks.ld (part := none) hx).andThen .now
  have L1 : Looks (model pg w) s.heap (isInstance (.ref x) (.type "staticmethod")) false := LT.andThen (looks_mroIn X h1)
  have L2 : Looks (model pg w) s.heap (isInstance (.ref x) (.type "classmethod")) false := LT.andThen (looks_mroIn X h2)
  unfold Builtin.«function.__dict__»
  refine wpAny_bind (wpAny_bind (L1.here (L2.here ?_)))
  show wpAny _ _ (instanceDictHandedOut x >>= _) _ _ _
  refine wpAny_bind ?_
  unfold instanceDictHandedOut
  have LI : Looks (model pg w) s.heap (instanceDict x true) (some dx) := by
    unfold instanceDict
    refine (Looks.ld hx).andThen ?_
    refine (looks_clsIn X hc).andThen ?_
    rw [hcd]
    exact .now
  refine wpAny_bind (LI.here ?_)
  refine wpAny_bind (wpAny_loadPart hx ?_)
  dsimp only [instOf]
  refine wpAny_bind ?_
  show wpAny _ _ (load dx >>= _) _ _ _
  refine wpAny_bind (wpAny_load hd ?_)
  refine wpAny_pure (a := Option.none) ?_
  refine wpAny_bind (wpAny_update hd ?_)
  exact wpAny_pure (wpAny_pure h)
end
section
variable {B : Bd} {φ : Phi} {A : Around} {f : Fm} {m : LM} {σ : Sig} {E : Value → Shared → Prop}
noncomputable def GaN (B : Bd) (φ : Phi) (A : Around) (a : Val) (name : Str) (σ : Sig) (Q : Val → Sig → Prop) (E : Value → Shared → Prop) : Prop :=
  ∀ u, er u = a → TN B φ A (getAttr u name true) σ (fun v => Q (er v)) E
theorem EvN.attr {o : Expr} {name : Str} {pos : Pos} {Q : Val → Sig → Prop} (h : Ev B φ A f m o σ (fun a σ₁ => GaN B ((f.env.locals, .fr f m) :: φ) A a name σ₁ Q E) E)
    (hb : attributeBase o name f.env (eval o f.env) = eval o f.env := by rfl) : EvN B φ A f m (.Attribute o name pos) σ Q E := fun s F S =>
  attrN hb (wpAny_mono (h s F S) (fun v s₁ ⟨σ₁, S₁, h₁⟩ => h₁ v rfl s₁ F S₁) fun _ _ e => e)
/-- an attribute that the class makes -/
theorem GaN.made {x C d : Addr} {kvs : List (Str × Val)} {out : Bool} {name : Str} {a g : Value} {Q : Val → Sig → Prop} (hx : σ x = some (.inst C d)) (hd : σ d = some (.dD kvs out)) (hn : name ∉ kvs.map (·.1))
    (hg : plainGet (K0 B.w) C name = true) (hc : hasDictIn (K0 B.w) C = true) (ha : findIn (K0 B.w) (.ref C) name = some (some a)) (hgg : specialIn (K0 B.w) a "__get__" = some (some g)) (ht : takesIn (K0 B.w) a = some false) (hcp : copiedNames.contains name = false)
    (h : ∀ E, ∀ us, us.map er = [er a, .ref x, .ref C] → TN B φ A.in1 (PySem.call g us []) σ (fun v σ' => (∃ b, er v = .ref b) ∧ Q (er v) σ') E) : GaN B φ A (.ref x) name σ Q E := fun u hu s F S => by
  rw [er_ref hu]
  obtain ⟨es, ep, kv, ho, hk, hp, nd, e, I⟩ := S.inst hx hd
  subst e
  refine getAttrN S.kin I (plainGet_of hg).1 (findObj_made hc ha hgg ht hcp ((look_in hk hp).trans (by rw [valueAt_not hn]))) (plainGet_of hg).2 ?_
  refine wpN.mono (h _ [a, .ref x, .ref C] rfl { s with toks := s.toks + 1 } F.in1 (S.toks _)) (fun v s' ⟨σ', S', ⟨b, hb⟩, q⟩ => ?_) fun _ _ e => e
  rw [er_ref hb] at q ⊢
  exact wpAny_pure ⟨σ', S', q⟩
theorem Ga.made {x C d : Addr} {kvs : List (Str × Val)} {out : Bool} {name : Str} {a g : Value} {Q : Val → Sig → Prop} (hx : σ x = some (.inst C d)) (hd : σ d = some (.dD kvs out)) (hn : name ∉ kvs.map (·.1))
    (hg : plainGet (K0 B.w) C name = true) (hc : hasDictIn (K0 B.w) C = true) (ha : findIn (K0 B.w) (.ref C) name = some (some a)) (hgg : specialIn (K0 B.w) a "__get__" = some (some g)) (ht : takesIn (K0 B.w) a = some false) (hcp : copiedNames.contains name = false)
    (h : ∀ E, ∀ us, us.map er = [er a, .ref x, .ref C] → T B φ A.in1 (PySem.call g us []) σ (fun v σ' => (∃ b, er v = .ref b) ∧ Q (er v) σ') E) : Ga B φ A (.ref x) name σ Q E := fun u hu s F S => by
  rw [er_ref hu]
  obtain ⟨es, ep, kv, ho, hk, hp, nd, e, I⟩ := S.inst hx hd
  subst e
  refine get_bind S.kin I (plainGet_of hg).1 (findObj_made hc ha hgg ht hcp ((look_in hk hp).trans (by rw [valueAt_not hn]))) (plainGet_of hg).2 ?_
  refine wpAny_mono (h _ [a, .ref x, .ref C] rfl { s with toks := s.toks + 1 } F.in1 (S.toks _)) (fun v s' ⟨σ', S', ⟨b, hb⟩, q⟩ => ?_) fun _ _ e => e
  rw [er_ref hb] at q ⊢
  exact wpAny_pure ⟨σ', S', q⟩
end
end Mine
end
section
open PySem PySem.W PySem.Calls PyProof.Rows
set_option maxRecDepth 100000
set_option Elab.async false
set_option linter.unusedVariables false
namespace Mine
section
variable {B : Bd} {φ : Phi} {A : Around} {f : Fm} {m : LM} {σ : Sig} {E : Value → Shared → Prop}
theorem BindK.one {cells : List (Str × Addr)} {K : LM → Sig → Prop} : ∀ {ps : List Str} {vs : List Val} {rest : List Str} {pre : LM} {σ : Sig}, ps.length = vs.length → K (pre ++ lmOf ps vs rest) σ →
    BindK cells K (ps.zip vs) (pre ++ nones (ps ++ rest)) σ := by
  intro ps
  induction ps with
  | nil =>
    intro vs rest pre σ hl h
    cases vs with
    | nil => exact h
    | cons _ _ => cases hl
  | cons p ps ih =>
    intro vs rest pre σ hl h
    cases vs with
    | nil => cases hl
    | cons v vs =>
      have hs : ∀ (pre : LM) (t : LM), Sto (pre ++ (p, none) :: t) p v (pre ++ (p, some v) :: t) := by
        intro pre t
        induction pre with
        | nil => exact .head
        | cons q r ih => exact .tail ih
      refine .inl ⟨pre ++ (p, some v) :: nones (ps ++ rest), hs pre _, ?_⟩
      have e : pre ++ (p, some v) :: nones (ps ++ rest) = (pre ++ [(p, some v)]) ++ nones (ps ++ rest) := by simp
      rw [e]
      refine ih (by simpa using hl) ?_
      have e2 : (pre ++ [(p, some v)]) ++ lmOf ps vs rest = pre ++ lmOf (p :: ps) (v :: vs) rest := by simp [lmOf]
      rw [e2]; exact h
/-- a def without cells; any arguments that bind without a trace -/
theorem Cl.defB {a : Addr} {o : Obj} {fd : FuncData} {body : List Stmt} {vs bvs : List Val} {kw : List (Str × Val)} {ps rest : List Str} {gl : List (Str × Value)} {Q : Val → Sig → Prop} {k : Nat}
    (hA : AOk A (k + 1)) (hK : (K0 B.w).lookup a = some o) (hd : o.data = .func fd) (hcode : codeIn (K0 B.w) fd.code fd.qualname = true) (hb : fd.body = .stmts body)
    (hbind : ∀ us ks s, us.map er = vs → ks.map (fun p : Str × Value => (p.1, er p.2)) = kw → St B φ σ s → ∃ binds, BindsTo s fd ⟨us, ks⟩ binds ∧ binds.map (fun p => (p.1, er p.2)) = ps.zip bvs) (hl : ps.length = bvs.length)
    (hchk : fmChk fd.scope (ps ++ rest) (cellNames fd.scope.names ++ fd.closure.map (·.1)) (gl.map (·.1)) = true) (hgv : ∀ p ∈ gl, GVal B.w p.1 p.2)
    (h : ∀ env A' E', AOk A' k → A' = A.deeper env → PassesOwn (M0 B.w) A' env E' → Es B φ A' ⟨env, [], gl⟩ (lmOf ps bvs rest) body σ (fun r _ σ' => Q (retOf r) σ') E')
    (hgl : fd.globals = mainGlobals := by rfl) (hbl : fd.builtins = builtinsNs := by rfl)
    (hcn : cellNames fd.scope.names = [] := by rfl) (hcl : fd.closure = [] := by rfl)
    (hco : fd.scope.isCoroutine = false := by rfl) (hgen : fd.scope.isGenerator = false := by rfl) (hk : fd.scope.kind = .function := by rfl) :
    Cl B φ A (.ref a) vs kw σ Q E := by
  refine Cl.defC hA (fun s S => ⟨S.kin _ _ hK, codeRec_of S.kin hcode⟩) hd hb hchk (by rw [hcn, hcl]; exact List.nodup_nil) hgv (fun us ks hu hks s F S => ?_) hgl hbl hco hgen hk
  obtain ⟨binds, hbi, he⟩ := hbind us ks s hu hks S
  refine hbi _ _ _ _ ⟨σ, S, fun env A' E' as hA' eA eE hE hlen hfr => ?_⟩
  rw [hcn] at hlen
  have : as = [] := List.length_eq_zero_iff.mp hlen
  subst this
  rw [he, show ownCs fd.scope.names [] fd.closure = [] by unfold ownCs; rw [hcn, hcl]; rfl]
  exact BindK.one (pre := []) hl (h env A' E' hA' eA hE)
theorem ClN.defB {a : Addr} {o : Obj} {fd : FuncData} {body : List Stmt} {vs bvs : List Val} {kw : List (Str × Val)} {ps rest : List Str} {gl : List (Str × Value)} {Q : Val → Sig → Prop} {k : Nat}
    (hA : AOk A (k + 1)) (hK : (K0 B.w).lookup a = some o) (hd : o.data = .func fd) (hcode : codeIn (K0 B.w) fd.code fd.qualname = true) (hb : fd.body = .stmts body)
    (hbind : ∀ us ks s, us.map er = vs → ks.map (fun p : Str × Value => (p.1, er p.2)) = kw → St B φ σ s → ∃ binds, BindsTo s fd ⟨us, ks⟩ binds ∧ binds.map (fun p => (p.1, er p.2)) = ps.zip bvs) (hl : ps.length = bvs.length)
    (hchk : fmChk fd.scope (ps ++ rest) (cellNames fd.scope.names ++ fd.closure.map (·.1)) (gl.map (·.1)) = true) (hgv : ∀ p ∈ gl, GVal B.w p.1 p.2)
    (h : ∀ env A' E', AOk A' k → A' = A.deeper env → PassesOwn (M0 B.w) A' env E' → EsN B φ A' ⟨env, [], gl⟩ (lmOf ps bvs rest) body σ (fun r _ σ' => Q (retOf r) σ') E')
    (hgl : fd.globals = mainGlobals := by rfl) (hbl : fd.builtins = builtinsNs := by rfl)
    (hcn : cellNames fd.scope.names = [] := by rfl) (hcl : fd.closure = [] := by rfl)
    (hco : fd.scope.isCoroutine = false := by rfl) (hgen : fd.scope.isGenerator = false := by rfl) (hk : fd.scope.kind = .function := by rfl) :
    ClN B φ A (.ref a) vs kw σ Q E := by
  refine ClN.defC hA (fun s S => ⟨S.kin _ _ hK, codeRec_of S.kin hcode⟩) hd hb hchk (by rw [hcn, hcl]; exact List.nodup_nil) hgv (fun us ks hu hks s F S => ?_) hgl hbl hco hgen hk
  obtain ⟨binds, hbi, he⟩ := hbind us ks s hu hks S
  refine hbi _ _ _ _ ⟨σ, S, fun env A' E' as hA' eA eE hE hlen hfr => ?_⟩
  rw [hcn] at hlen
  have : as = [] := List.length_eq_zero_iff.mp hlen
  subst this
  rw [he, show ownCs fd.scope.names [] fd.closure = [] by unfold ownCs; rw [hcn, hcl]; rfl]
  exact BindK.one (pre := []) hl (h env A' E' hA' eA hE)

/-! ### tests known -/
theorem tF {P P' : Prop} (h : P') : (false = true → P) ∧ (false = false → P') := ⟨fun e => (nomatch e), fun _ => h⟩
theorem tT {P P' : Prop} (h : P) : (true = true → P) ∧ (true = false → P') := ⟨fun _ => h, fun e => (nomatch e)⟩
theorem Cm.isNoneF {Q : Val → Sig → Prop} {a : Val} (h : a ≠ .none) (q : Q (.bool false) σ) : Cm B φ A .Is a .none σ Q E := Cm.isNone (by cases a <;> first | exact q | exact absurd rfl h)
theorem Cm.isNoneT {Q : Val → Sig → Prop} (q : Q (.bool true) σ) : Cm B φ A .Is .none .none σ Q E := Cm.isNone q
theorem Cm.isNotNoneT {Q : Val → Sig → Prop} {a : Val} (h : a ≠ .none) (q : Q (.bool true) σ) : Cm B φ A .IsNot a .none σ Q E := Cm.isNotNone (by cases a <;> first | exact q | exact absurd rfl h)
theorem Cm.isNotNoneF {Q : Val → Sig → Prop} (q : Q (.bool false) σ) : Cm B φ A .IsNot .none .none σ Q E := Cm.isNotNone q
/-! ### what stands in the written part -/
/-- an attribute of an object of the written part -/
theorem Ga.kin {x C dx : Addr} {od : Obj} {sl : Array (Option Value)} {name : Str} {v : Value} {Q : Val → Sig → Prop} (h1 : (K0 B.w).lookup x = some ⟨.ref C, some dx, .plain, sl⟩) (h2 : (K0 B.w).lookup dx = some od)
    (hg : plainGet (K0 B.w) C name = true) (hf : findObj (K0 B.w) C (some od) name = some (.value v)) (hh : handedIn v = true) (q : Q (er v) σ) : Ga B φ A (.ref x) name σ Q E := fun u hu s F S => by
  rw [er_ref hu]
  exact get_value S.kin (InstAt.of_K S.kin h1 h2) (plainGet_of hg).1 hf hh ⟨σ, S.toks _, q⟩
theorem Gm.kin {x C dx : Addr} {od : Obj} {sl : Array (Option Value)} {name : Str} {v : Value} {Q : Value → List Value → Sig → Prop} (h1 : (K0 B.w).lookup x = some ⟨.ref C, some dx, .plain, sl⟩) (h2 : (K0 B.w).lookup dx = some od)
    (hg : plainGet (K0 B.w) C name = true) (hn : findIn (K0 B.w) (.ref C) name = some none) (hf : findObj (K0 B.w) C (some od) name = some (.value v)) (hh : handedIn v = true) (q : Q v [] σ) : Gm B φ A (.ref x) name σ Q E := fun u pl hu s F S => by
  rw [er_ref hu]
  have I := InstAt.of_K S.kin h1 h2
  exact method_usual S.kin I (plainGet_of hg).1 (plainGet_of hg).2 hn rfl (get_value S.kin I (plainGet_of hg).1 hf hh ⟨σ, S.toks _, q⟩)

/-! ### the dict of a graph, read -/
noncomputable def dictGetter (K : Frag) (p C : Addr) : Bool := match recIn K p "getset_descriptor" with
  | some [.str _ _, .ref C0, .builtin f, _] => f == "function.__dict__" && mroIn K C (.ref C0) == some true
  | _ => false
theorem getter_of {K : Frag} {p C : Addr} (h : dictGetter K p C = true) : ∃ n t C0 st, recIn K p "getset_descriptor" = some [.str n t, .ref C0, .builtin "function.__dict__", st] ∧ mroIn K C (.ref C0) = some true := by
  unfold dictGetter at h
  split at h
  · rename_i n t C0 f st e
    obtain ⟨h1, h2⟩ := Bool.and_eq_true_iff.mp h
    rw [beq_iff_eq.mp h1] at e
    exact ⟨n, t, C0, st, e, beq_iff_eq.mp h2⟩
  · cases h
theorem dict_handed {s : Shared} (S : St B φ σ s) {x d : Addr} {kvs : List (Str × Val)} {out : Bool} (hx : σ x = some (.inst 676 d)) (hd : σ d = some (.dD kvs out)) {tk : Tok} :
    St B φ (σ.upd d (.dD kvs true)) { s with heap := s.heap.update d fun o => if o.slots.isEmpty then { o with slots := #[Option.none] } else o, toks := tk } := by
  obtain ⟨es, ep, kv, ho, hk, hp, nd, e⟩ := S.dd hd
  refine S.upd hd (fun b o hb e => (Heap.get?_update_ne _ _ _ _ hb).trans e) ⟨es, ep, kv, ?_, hk, hp, nd, e⟩
  have h1 := Heap.get?_update_self (fun o : Obj => if o.slots.isEmpty then { o with slots := #[Option.none] } else o) ho (by cases out <;> rfl)
  refine h1.trans ?_
  cases out <;> rfl
theorem GaN.dict {x d : Addr} {kvs : List (Str × Val)} {Q : Val → Sig → Prop} (hx : σ x = some (.inst 676 d)) (hd : σ d = some (.dD kvs false)) (q : Q (.ref d) (σ.upd d (.dD kvs true))) : GaN B φ A (.ref x) (Str.ofString "__dict__") σ Q E := fun u hu s F S => by
  rw [er_ref hu]
  obtain ⟨es, ep, kv, ho, hk, hp, nd, e, I⟩ := S.inst hx hd
  refine getAttrN (g := .builtin "getset_descriptor.__get__") (a := .ref 538) S.kin I (by kernel_rfl) (findObj_data (by kernel_rfl) (by kernel_rfl) (by kernel_rfl) (by kernel_rfl)) (by kernel_rfl) ?_
  obtain ⟨cd, hc, hcd⟩ := any_some (show (clsIn (K0 B.w) 676).any (·.hasDict) = true by kernel_rfl)
  obtain ⟨n, t, C0, st, r1, r2⟩ := getter_of (K := K0 B.w) (p := 538) (C := 676) (by kernel_rfl)
  exact wpN.call (getsetN S.kin (S.look hx) ho hc hcd (by kernel_rfl) (by kernel_rfl) (by kernel_rfl) r1 r2 (wpAny_pure ⟨_, dict_handed S hx hd, q⟩))
theorem Ga.dict {x d : Addr} {kvs : List (Str × Val)} {Q : Val → Sig → Prop} (hx : σ x = some (.inst 676 d)) (hd : σ d = some (.dD kvs true)) (q : Q (.ref d) (σ.upd d (.dD kvs true))) : Ga B φ A (.ref x) (Str.ofString "__dict__") σ Q E := fun u hu s F S => by
  rw [er_ref hu]
  obtain ⟨es, ep, kv, ho, hk, hp, nd, e, I⟩ := S.inst hx hd
  refine get_bind (g := .builtin "getset_descriptor.__get__") (a := .ref 538) S.kin I (by kernel_rfl) (findObj_data (by kernel_rfl) (by kernel_rfl) (by kernel_rfl) (by kernel_rfl)) (by kernel_rfl) ?_
  obtain ⟨cd, hc, hcd⟩ := any_some (show (clsIn (K0 B.w) 676).any (·.hasDict) = true by kernel_rfl)
  obtain ⟨n, t, C0, st, r1, r2⟩ := getter_of (K := K0 B.w) (p := 538) (C := 676) (by kernel_rfl)
  exact wpAny_call (getsetA S.kin (S.look hx) ho hc hcd (by kernel_rfl) (by kernel_rfl) r1 r2 (wpAny_pure ⟨_, dict_handed S hx hd, q⟩))
end
end Mine
end
section
open PySem PySem.W PySem.Calls PyProof.Rows
set_option maxRecDepth 100000
set_option Elab.async false
set_option linter.unusedVariables false
namespace Mine
section
variable {B : Bd} {φ : Phi} {A : Around} {f : Fm} {m : LM} {σ : Sig} {E : Value → Shared → Prop}
/-! ### the values of a dict, gone through -/
theorem Gang.values {it d : Addr} {kvs : List (Int × Val)} {ep : Nat} (hh : A.handled = none) : Gang B A it (fun i => vitC d i kvs.length ep) (kvs.map (·.2)) (fun σ => σ d = some (.dI kvs ep)) where
  item φ σ s i x Q E S hl hx hQ := by
    obtain ⟨kv, hd, e⟩ := S.look hl
    subst e
    rw [List.map_map, List.getElem?_map] at hx
    cases q' : kv[i]? with
    | none => rw [q'] at hx; cases hx
    | some p =>
      rw [q'] at hx; cases hx
      obtain ⟨k, v⟩ := p
      have hit := (S.ph _ (.head _)).1
      simp only [vitC] at hit
      rw [List.length_map] at hit
      refine wpAny_pyNext_values_item (knd := intKind pg B.w) hit hd q' fun h' hi hs => hQ _ _ rfl (S.alter hs.extBut ?_)
      rw [List.length_map]
      exact hi
  last φ σ s i Q E F S hl hx hQ := by
    obtain ⟨kv, hd, e⟩ := S.look hl
    subst e
    rw [List.map_map, List.getElem?_map, Option.map_eq_none_iff] at hx
    have hit := (S.ph _ (.head _)).1
    simp only [vitC] at hit
    rw [List.length_map] at hit
    exact wpAny_pyNext_values_end (knd := intKind pg B.w) hh hit hd hx fun h' hs => hQ _ (S.lose hs)
  plain i _ _ := Cell.noConfusion
  self φ σ s i Q E S q := wpAny_pyIter_valiter (S.ph _ (.head _)).1 q
theorem It.values {v d : Addr} {kvs : List (Int × Val)} {ep : Nat} {K : Sig → Prop} (hh : A.handled = none) (hv : σ v = some (valuesC d)) (hd : σ d = some (.dI kvs ep)) (k : K σ) : It B φ A (.ref v) σ (kvs.map (·.2)) (fun σ => σ d = some (.dI kvs ep)) K := fun u s Q E hu F S h => by
  rw [er_ref hu]
  obtain ⟨kv, hdd, e⟩ := S.look hd
  have hl : kv.length = kvs.length := by rw [← e, List.length_map]
  refine wpAny_pyIter_values (knd := intKind pg B.w) ⟨_, S.look hv, rfl, rfl⟩ hdd (h _ _ σ _ (S.allocH (c := vitC d 0 kvs.length ep) (fun b o e => Heap.get?_push_of_some _ e) ⟨_, Heap.get?_push_size _ rfl, rfl, by rw [hl]; rfl⟩) k (Gang.values hh))

/-! ### targets -/
noncomputable def As (B : Bd) (φ : Phi) (A : Around) (f : Fm) (m : LM) (target : Expr) (v : Val) (σ : Sig) (Q : LM → Sig → Prop) (E : Value → Shared → Prop) : Prop :=
  ∀ u, er u = v → X B φ A f m (assign target f.env u) σ (fun _ => Q) E
theorem As.name {x : Str} {xp : Pos} {v : Val} {Q : LM → Sig → Prop} (h : ∃ m', Sto m x v m' ∧ Q m' σ) : As B φ A f m (.Name x xp) v σ Q E := fun u hu s F S => by
  obtain ⟨m', h1, h2⟩ := h
  subst hu
  exact wpAny_assign_Name (X.stoLoc h1 h2 s F S)
theorem As.cel {x : Str} {xp : Pos} {v : Val} {Q : LM → Sig → Prop} {c : Addr} {o : Option Val} (h : (x, c) ∈ f.cells) (hc : σ c = some (.cel o)) (q : Q m (σ.upd c (.cel (some v)))) : As B φ A f m (.Name x xp) v σ Q E := fun u hu s F S => by
  subst hu
  exact wpAny_assign_Name (X.stoCel h hc q s F S)
theorem As.sub {o i : Expr} {sp : Pos} {v : Val} {Q : LM → Sig → Prop} (h : Ev B φ A f m o σ (fun a σ₁ => Ev B φ A f m i σ₁ (fun k σ₂ => Si B ((f.env.locals, .fr f m) :: φ) A a k v σ₂ (fun σ₃ => Q m σ₃) E) E) E) : As B φ A f m (.Subscript o i sp) v σ Q E := fun u hu s F S => by
  show wpAny _ _ (assign (.Subscript o i sp) f.env u) _ _ _
  rw [assign_Subscript]
  refine wpAny_bind (wpAny_holding (wpAny_mono (h s F S) (fun ov s₁ ⟨σ₁, S₁, h₁⟩ => wpAny_bind (wpAny_holding (wpAny_mono (h₁ s₁ F S₁) (fun iv s₂ ⟨σ₂, S₂, h₂⟩ => ?_) fun _ _ e => e))) fun _ _ e => e))
  refine wpAny_bind (wpAny_standAt (wpAny_bind (wpAny_holding (wpAny_mono (h₂ ov iv u rfl rfl hu s₂ F S₂) (fun _ s₃ ⟨σ₃, S₃, q⟩ => ?_) fun _ _ e => e))))
  exact wpAny_release ⟨m, σ₃, S₃, q⟩
theorem As.tup2 {e₁ e₂ : Expr} {k : Nat} {tp : Pos} {t : Addr} {v w : Val} {Q : LM → Sig → Prop} (hh : A.handled = none) (ht : σ t = some (.tup [v, w]))
    (h : As B φ A f m e₁ v σ (fun m₁ σ₁ => As B φ A f m₁ e₂ w σ₁ Q E) E)
    (he : assignEach [e₁, e₂] f.env = [(false, assign e₁ f.env), (false, assign e₂ f.env)] := by rfl) : As B φ A f m (.Tuple [e₁, e₂] k tp) (.ref t) σ Q E := fun u hu s F S => by
  rw [er_ref hu]
  obtain ⟨items, n, ho, e⟩ := S.look ht
  obtain ⟨l⟩ := items
  obtain ⟨a, b, rfl, ha, hb⟩ := two_arg (us := l) e
  refine wpAny_assign_Tuple hh ⟨_, ho, rfl, n, rfl⟩ (by rw [he]; rfl) (by rw [he]; rfl) fun h' hx => ?_
  rw [he]
  have S₁ := S.ext (h' := h') (tk := s.toks) fun b o eb => hx b o (Nat.ne_of_lt (Heap.lt_size eb)) eb
  show wpAny _ _ (do holding [b] (assign e₁ f.env a); do holding [] (assign e₂ f.env b); Pure.pure ()) _ _ _
  refine wpAny_bind (wpAny_holding (wpAny_mono (h a ha _ F S₁) (fun _ s₂ ⟨m₂, σ₂, S₂, h₂⟩ => ?_) fun _ _ e => e))
  exact wpAny_bind (wpAny_holding (wpAny_mono (h₂ b hb s₂ F.turn S₂) (fun _ s₃ h₃ => wpAny_pure h₃) fun _ _ e => e))
theorem As.tup3 {e₁ e₂ e₃ : Expr} {k : Nat} {tp : Pos} {t : Addr} {v w x : Val} {Q : LM → Sig → Prop} (hh : A.handled = none) (ht : σ t = some (.tup [v, w, x]))
    (h : As B φ A f m e₁ v σ (fun m₁ σ₁ => As B φ A f m₁ e₂ w σ₁ (fun m₂ σ₂ => As B φ A f m₂ e₃ x σ₂ Q E) E) E)
    (he : assignEach [e₁, e₂, e₃] f.env = [(false, assign e₁ f.env), (false, assign e₂ f.env), (false, assign e₃ f.env)] := by rfl) : As B φ A f m (.Tuple [e₁, e₂, e₃] k tp) (.ref t) σ Q E := fun u hu s F S => by
  rw [er_ref hu]
  obtain ⟨items, n, ho, e⟩ := S.look ht
  obtain ⟨l⟩ := items
  obtain ⟨a, b, c, rfl, ha, hb, hc⟩ := three_arg (us := l) e
  refine wpAny_assign_Tuple hh ⟨_, ho, rfl, n, rfl⟩ (by rw [he]; rfl) (by rw [he]; rfl) fun h' hx => ?_
  rw [he]
  have S₁ := S.ext (h' := h') (tk := s.toks) fun b o eb => hx b o (Nat.ne_of_lt (Heap.lt_size eb)) eb
  show wpAny _ _ (do holding [b, c] (assign e₁ f.env a); do holding [c] (assign e₂ f.env b); do holding [] (assign e₃ f.env c); Pure.pure ()) _ _ _
  refine wpAny_bind (wpAny_holding (wpAny_mono (h a ha _ F S₁) (fun _ s₂ ⟨m₂, σ₂, S₂, h₂⟩ => ?_) fun _ _ e => e))
  refine wpAny_bind (wpAny_holding (wpAny_mono (h₂ b hb s₂ F.turn S₂) (fun _ s₃ ⟨m₃, σ₃, S₃, h₃⟩ => ?_) fun _ _ e => e))
  exact wpAny_bind (wpAny_holding (wpAny_mono (h₃ c hc s₃ F.turn S₃) (fun _ s₄ h₄ => wpAny_pure h₄) fun _ _ e => e))
/-- (a, b, ..) = value, not a tuple that is swapped -/
theorem Ex.asgTup {elts : List Expr} {k : Nat} {tp pos : Pos} {value : Expr} {Q : Fl → LM → Sig → Prop} (h : Ev B φ A f m value σ (fun v σ₁ => As B φ A f m (.Tuple elts k tp) v σ₁ (fun m' σ' => Q .next m' σ') E) E)
    (hs : swapsWithSole [.Tuple elts k tp] value pos.line f.env = Pure.pure false := by rfl) (hw : swappedStores [.Tuple elts k tp] value f.env = Pure.pure Option.none := by rfl) : Ex B φ A f m (.Assign [.Tuple elts k tp] value pos) σ Q E := fun s F S =>
  Assign_Tuple (wpAny_mono (h s F S) (fun v s₁ ⟨σ₁, S₁, h₁⟩ => wpAny_mono (h₁ v rfl s₁ F S₁) (fun _ _ h => h) fun _ _ e => e) fun _ _ e => e) hs hw
/-- a = b = value -/
theorem Ex.asg2 {t₁ t₂ value : Expr} {pos : Pos} {Q : Fl → LM → Sig → Prop} (h : Ev B φ A f m value σ (fun v σ₁ => As B φ A f m t₁ v σ₁ (fun m₁ σ₂ => As B φ A f m₁ t₂ v σ₂ (fun m' σ' => Q .next m' σ') E) E) E)
    (he : (assignEach [t₁, t₂] f.env).map (·.2) = [assign t₁ f.env, assign t₂ f.env] := by rfl) (hw : swappedStores [t₁, t₂] value f.env = Pure.pure Option.none := by rfl) : Ex B φ A f m (.Assign [t₁, t₂] value pos) σ Q E := fun s F S =>
  wpAny_Assign_two (wpAny_mono (h s F S) (fun v s₁ ⟨σ₁, S₁, h₁⟩ => wpAny_mono (h₁ v rfl s₁ F S₁) (fun _ s₂ ⟨m₂, σ₂, S₂, h₂⟩ => wpAny_mono (h₂ v rfl s₂ F.turn S₂) (fun _ _ h => h) fun _ _ e => e) fun _ _ e => e) fun _ _ e => e) he hw
end
end Mine
end
section
open PySem PySem.W PySem.Calls PyProof.Rows
set_option maxRecDepth 100000
set_option Elab.async false
set_option linter.unusedVariables false
namespace Mine
section
variable {B : Bd} {φ : Phi} {A : Around} {f : Fm} {m : LM} {σ : Sig} {E : Value → Shared → Prop}
noncomputable def titC (d : Addr) (i n ep : Nat) (a ok ov : Value) : Cell := .obj { cls := .type "dict_itemiterator", dict := none, data := .fields #[a, .bool false, .ref d, .int i 0, .int n 0, .int ep 0, ok, ov], slots := #[] }
/-- for x, y in d.items() -/
theorem Ex.forItems {x y : Str} {xp yp tp pos : Pos} {kk : Nat} {iter : Expr} {body : List Stmt} {d : Addr} {kvs : List (Int × Val)} {ep : Nat} {Q : Fl → LM → Sig → Prop} (I : Nat → LM → Sig → Prop) (hE : PassesOwn (M0 B.w) A f.env E) (hh : A.handled = none)
    (h : Ev B φ A f m iter σ (fun v σ₁ => ∃ a, v = .ref a ∧ σ₁ a = some (itemsC d) ∧ I 0 m σ₁) E)
    (hR : ∀ i m σ, I i m σ → σ d = some (.dI kvs ep))
    (step : ∀ i k v m σ it c, (∀ f m, c ≠ .fr f m) → kvs[i]? = some (k, v) → I i m σ → ∃ m₁ m₂, Sto m x (.int k) m₁ ∧ Sto m₁ y v m₂ ∧ Es B ((it, c) :: φ) A f m₂ body σ (Turn Q (I (i + 1))) E)
    (done : ∀ m σ, I kvs.length m σ → Q .next m σ)
    (hs : ∀ x, foldedSetIterable iter f.env x = Pure.pure x := by intro _; rfl) :
    Ex B φ A f m (.For (.Tuple [.Name x xp, .Name y yp] kk tp) iter body [] pos) σ Q E := fun s F S => by
  refine wpAny_For (wpAny_mono (h s F S) (fun u s₁ ⟨σ₁, S₁, a, hu, ha, hI⟩ => ?_) fun _ _ e => e) hs
  rw [er_ref hu]
  obtain ⟨kv, hd, e⟩ := S₁.look (hR _ _ _ hI)
  have hl : kv.length = kvs.length := by rw [← e, List.length_map]
  refine wpAny_pyIter_items (knd := intKind pg B.w) ⟨_, S₁.look ha, rfl, rfl⟩ hd ?_
  have S₂ := S₁.allocH (c := titC d 0 kvs.length ep .none .none .none) (tk := s₁.toks) (fun b o e => Heap.get?_push_of_some _ e) (h' := s₁.heap.push { cls := .type "dict_itemiterator", data := .fields #[.none, .bool false, .ref d, .int 0 0, .int kv.length 0, .int ep 0, .none, .none] }) (by rw [hl]; exact Heap.get?_push_size _ rfl)
  generalize s₁.heap.objs.size = it at S₂ ⊢
  refine codeAny_forLoop_any (fun n s => ∃ i m σ ok ov, St B ((it, titC d i kvs.length ep .none ok ov) :: (f.env.locals, .fr f m) :: φ) σ s ∧ I i m σ ∧ i ≤ kvs.length ∧ n = kvs.length - i) ?_ (kvs.length - 0) ⟨0, m, σ₁, _, _, S₂, hI, Nat.zero_le _, rfl⟩
  rintro n s₃ ⟨i, m', σ', ok, ov, S', hI', hi, rfl⟩
  obtain ⟨kv, hd, e⟩ := S'.look (hR _ _ _ hI')
  have hl : kv.length = kvs.length := by rw [← e, List.length_map]
  have hit : IsItemIter s₃.heap it d i kv.length ep ok ov := by rw [hl]; exact (S'.ph _ (.head _)).1
  cases hv : kv[i]? with
  | none =>
    have hsz : i = kvs.length := Nat.le_antisymm hi (by rw [← hl]; simpa using hv)
    refine wpAny_pyNext_items_end (knd := intKind pg B.w) hh hit hd hv fun h' hs' => wpAny_execs_nil ⟨m', σ', S'.lose hs', done _ _ (hsz ▸ hI')⟩
  | some p =>
    obtain ⟨k, v⟩ := p
    have hlt : i < kvs.length := by rw [← hl]; exact (List.getElem?_eq_some_iff.mp hv).1
    have hkv : kvs[i]? = some (k, er v) := by rw [← e, List.getElem?_map, hv]; rfl
    refine wpAny_pyNext_items_item (knd := intKind pg B.w) hit hd hv fun key h₁ hkey hout htup hsz hkeep => ?_
    have hkey' : er key = .int k := by
      obtain ⟨t, rfl⟩ := Value.isInt_shape (show Value.isInt k key = true from hkey)
      rfl
    have hitne : it ≠ s₃.heap.objs.size := Nat.ne_of_lt (Heap.lt_size hit)
    -- the iterator turns, a tuple is new
    have A1 : St B ((it, titC d (i + 1) kvs.length ep (rawInt s₃.heap.objs.size) key v) :: (f.env.locals, .fr f m') :: φ) (σ'.upd s₃.heap.objs.size (.tup [.int k, er v])) { s₃ with heap := h₁ } ∧ σ' s₃.heap.objs.size = none := by
      have fr := S'.fresh
      have bg := S'.big
      have S'' := S'
      obtain ⟨b, ⟨h, t, e0⟩, kp, dd, ff, gg⟩ := S'
      have na := (ff _ (.head _)).2
      refine ⟨⟨b, ⟨h₁, s₃.toks, by rw [e0]⟩, fun x o q => hkeep x o (fun z => by rw [z, na.1] at q; cases q) (kp x o q), fun x y q => ?_, fun p q => ?_, gg⟩, fr.1⟩
      · unfold Sig.upd at q
        split at q
        · rename_i z; cases q; subst z
          exact ⟨⟨_, _, htup, by simp [hkey']⟩, fr.2.2, bg⟩
        · exact ⟨CellAt.keep (fun o => hkeep x o fun z => by rw [z, na.2.1] at q; cases q) (dd x y q).1, (dd x y q).2⟩
      · rcases List.mem_cons.mp q with rfl | q
        · refine ⟨?_, na.1, by rw [Sig.upd_ne hitne]; exact na.2.1, na.2.2⟩
          show h₁.get? it = some _
          rw [hl] at hout
          exact hout
        · have hpne : p.1 ≠ it := fun z => (List.nodup_cons.mp gg).1 (List.mem_map.mpr ⟨p, q, z⟩)
          have hps : p.1 ≠ s₃.heap.objs.size := fr.2.1 p (.tail _ q)
          have := ff p (.tail _ q)
          exact ⟨CellAt.keep (fun o => hkeep _ o hpne) this.1, this.2.1, by rw [Sig.upd_ne hps]; exact this.2.2.1, this.2.2.2⟩
    obtain ⟨S₄, hfr⟩ := A1
    refine wpAny_letOwnedTupleGo_items (s := { s₃ with heap := h₁ }) hout fun h₂ hin hsame => ?_
    have S₅ := S₄.head (c' := titC d (i + 1) kvs.length ep .none key v) (h' := h₂) (tk := s₃.toks) hsame.extBut (by rw [hl] at hin; exact hin)
    obtain ⟨m₁, m₂, t1, t2, hbody⟩ := step i k (er v) m' σ' it (titC d (i + 1) kvs.length ep .none key v) (fun _ _ => Cell.noConfusion) hkv hI'
    have F₅ : FrOk A ((f.env.locals, .fr f m') :: (it, titC d (i + 1) kvs.length ep .none key v) :: φ) := (FrOk.cons (F.turn)).swap
    have asg := As.tup2 (B := B) (φ := (it, titC d (i + 1) kvs.length ep .none key v) :: φ) (A := A) (f := f) (m := m') (E := E) (σ := σ'.upd s₃.heap.objs.size (.tup [.int k, er v])) (k := kk) (tp := tp) (Q := fun m'' τ => m'' = m₂ ∧ τ = σ'.upd s₃.heap.objs.size (.tup [.int k, er v]))
      hh Sig.upd_self (As.name (xp := xp) ⟨m₁, t1, As.name (xp := yp) ⟨m₂, t2, rfl, rfl⟩⟩) rfl (.ref s₃.heap.objs.size) rfl _ F₅ S₅.swap
    refine wpAny_passesOwn hE (wpAny_mono asg (fun _ s₆ ⟨m₆, σ₆, S₆, e1, e2⟩ => ?_) fun _ _ e => e)
    subst e1 e2
    refine wpAny_passesOwn hE (wpAny_mono (hbody s₆ F₅.turn (S₆.le (Sig.le_fresh hfr Sig.le_refl))) (fun r s₇ ⟨m₇, σ₇, S₇, h₇⟩ => ?_) fun _ _ e => e)
    cases r with
    | next => exact ⟨kvs.length - (i + 1), by omega, i + 1, m₇, σ₇, key, v, S₇.swap, h₇, hlt, rfl⟩
    | cont => exact ⟨kvs.length - (i + 1), by omega, i + 1, m₇, σ₇, key, v, S₇.swap, h₇, hlt, rfl⟩
    | brk => exact ⟨m₇, σ₇, S₇.swap.drop, h₇⟩
    | ret w => exact ⟨m₇, σ₇, S₇.swap.drop, h₇⟩
end
end Mine
end
section
open PySem PySem.W PySem.Calls PyProof.Rows
set_option maxRecDepth 100000
set_option Elab.async false
set_option linter.unusedVariables false
namespace Mine
section
variable {B : Bd} {φ : Phi} {A : Around} {f : Fm} {m : LM} {σ : Sig} {E : Value → Shared → Prop}
/-! ### making an object -/
noncomputable def inMake (A : Around) : Around := { A with depth := A.depth + 1, units := A.units + 1 }
theorem under_make {A : Around} {C : Addr} {rest : List Value} {kw : List (Str × Value)} : A.under (.builtin "type.__call__" ⟨.ref C :: rest, kw⟩) = inMake A := by
  have hw : (Code.builtin "type.__call__" ⟨.ref C :: rest, kw⟩).weight = 1 := by
    unfold Code.weight
    rw [show (Code.builtin "type.__call__" ⟨.ref C :: rest, kw⟩).frames = 0 from rfl, show (Code.builtin "type.__call__" ⟨.ref C :: rest, kw⟩).isCreation = true from rfl]
    have g : (Code.builtin "type.__call__" ⟨.ref C :: rest, kw⟩).isGuard = false := by show guardIds.contains "type.__call__" = false; decide +kernel
    have c : (Code.builtin "type.__call__" ⟨.ref C :: rest, kw⟩).isCaller = false := rfl
    rw [g, c]; rfl
  have hg : (Code.builtin "type.__call__" ⟨.ref C :: rest, kw⟩).guards = [] := by
    unfold Code.guards
    have g : (Code.builtin "type.__call__" ⟨.ref C :: rest, kw⟩).isGuard = false := by show guardIds.contains "type.__call__" = false; decide +kernel
    rw [g]; rfl
  have he : (Code.builtin "type.__call__" ⟨.ref C :: rest, kw⟩).envs = [] := rfl
  have hu : (Code.builtin "type.__call__" ⟨.ref C :: rest, kw⟩).cUnits = 1 := rfl
  unfold Around.under inMake
  rw [hw, hg, he, hu]
  rfl
theorem AOk.make {n k : Nat} (h : AOk A n) (l : k + 1 ≤ n) : AOk (inMake A) k := ⟨by have := h.d; show A.depth + 1 + 5 * k < 1000; omega, by have := h.u; show A.units + 1 + 100 * k < 9900; omega⟩
theorem FrOk.make (h : FrOk A φ) : FrOk (inMake A) φ := h
theorem Cl.cls {C fI : Addr} {vs : List Val} {kw : List (Str × Val)} {Q : Val → Sig → Prop} (hm : makesIn (K0 B.w) C = true) (hi : findIn (K0 B.w) (.ref C) "__init__" = some (some (.ref fI))) (hf : typeIn (K0 B.w) (.ref fI) = some (.type "function"))
    (h : ∀ x d, σ x = none → σ d = none → x ≠ d → Cd B φ (inMake A) (.ref fI) (.ref x :: vs) kw ((σ.upd d (.dD [] false)).upd x (.inst C d)) (fun v σ' => v = .none ∧ Q (.ref x) σ') E) : Cl B φ A (.ref C) vs kw σ Q E := fun us ks hu hk s F S => by
  have X := S.kin
  refine wpAny_call ?_
  have S₁ := S.alloc (c := .dD [] false) (tk := s.toks) (fun b o e => Heap.get?_push_of_some emptyDict e) ⟨#[], 0, [], Heap.get?_push_size _ rfl, (fun e he => by simp at he), .nil, .nil, rfl⟩
  have S₂ := S₁.alloc (c := .inst C s.heap.objs.size) (tk := s.toks) (fun b o e => Heap.get?_push_of_some (instObj C s.heap.objs.size) e) (Heap.get?_push_size _ rfl)
  have sz : (s.heap.push emptyDict).objs.size = s.heap.objs.size + 1 := Heap.size_push ..
  have f1 := S₁.fresh.1
  simp only at S₂ f1
  rw [sz] at S₂ f1
  have f2 := (Sig.upd_none f1)
  have hc := h (s.heap.objs.size + 1) s.heap.objs.size f2.2 S.fresh.1 (Nat.succ_ne_self _) (.ref (s.heap.objs.size + 1) :: us) ks (by rw [List.map_cons, hu]; rfl) hk _ F.make S₂
  obtain ⟨hh, g, d, t, os⟩ := s
  refine make_core (makes_of X hm) (looks_findIn X hi) (fun self => bind_fn X self hf) (.inl rfl) ?_
  rw [under_make]
  refine codeAny_mono hc fun r s' z => ?_
  rcases r with e | (v | _ | _ | _) <;> first | exact z | exact z.elim | skip
  obtain ⟨σ', S', hv, q⟩ := z
  exact ⟨er_none hv, σ', S', q⟩
end
end Mine
end
section
open PySem PySem.W PySem.Calls PyProof.Rows
set_option maxRecDepth 100000
set_option Elab.async false
set_option linter.unusedVariables false
namespace Mine
theorem one_kw {ks : List (Str × Value)} {n : Str} {v : Val} (h : ks.map (fun p : Str × Value => (p.1, er p.2)) = [(n, v)]) : ∃ b, ks = [(n, b)] ∧ er b = v := by
  cases ks with
  | nil => cases h
  | cons p r =>
    rw [List.map_cons, List.cons.injEq] at h
    obtain ⟨a, b⟩ := p
    have := no_kw h.2
    subst this
    obtain ⟨h1, h2⟩ := Prod.mk.inj h.1
    exact ⟨b, by rw [← h1], h2⟩
theorem two_kw {ks : List (Str × Value)} {n k : Str} {v w : Val} (h : ks.map (fun p : Str × Value => (p.1, er p.2)) = [(n, v), (k, w)]) : ∃ b c, ks = [(n, b), (k, c)] ∧ er b = v ∧ er c = w := by
  cases ks with
  | nil => cases h
  | cons p r =>
    rw [List.map_cons, List.cons.injEq] at h
    obtain ⟨a, b⟩ := p
    obtain ⟨c, rfl, hc⟩ := one_kw h.2
    obtain ⟨h1, h2⟩ := Prod.mk.inj h.1
    exact ⟨b, c, by rw [← h1], h2, hc⟩
section
variable {B : Bd} {φ : Phi} {A : Around} {f : Fm} {m : LM} {σ : Sig} {E : Value → Shared → Prop}
/-- a new name in a str-keyed dict -/
theorem nsSet_new {s : Shared} (S : St B φ σ s) {d : Addr} {kvs : List (Str × Val)} {name : Str} {v : Value} {Q : Unit → Shared → Prop} (hd : σ d = some (.dS kvs)) (hn : name ∉ kvs.map (·.1))
    (q : ∀ s', St B φ (σ.upd d (.dS (kvs ++ [(name, er v)]))) s' → Q () s') : wpAny (M0 B.w) A (nsSet d name v) Q E s := by
  obtain ⟨kv, ⟨o, es, ep, ho, ⟨e1, e2, e3⟩, hdat, hk, hpr, nd⟩, e⟩ := S.look hd
  subst e
  obtain ⟨oc, od, oda, osl⟩ := o
  simp only at e1 e2 e3 hdat
  subst e1 e2 e3 hdat
  have hv := valueAt_not hn
  unfold nsSet
  refine wpAny_bind (wpAny_bind (wpAny_askSetting (wpAny_pure (wpAny_bind (wpAny_mkText (wpAny_bind (wpAny_loadPart ho ?_)))))))
  dsimp only
  have c0 : (!es.any (·.key.isStr name) && es.any (·.refKey)) = false := by
    have := noRefs hk
    rw [Array.any_toList] at this
    rw [this, Bool.and_false]
  rw [aRefKeyMayBeTheName_at, c0]
  refine wpAny_updatePart ho ?_
  have hfi : es.findIdx? (·.key.isStr name) = none := by
    have h := find_is (name := name) hpr
    rw [hv, Option.map_eq_none_iff, List.find?_eq_none] at h
    rw [Array.findIdx?_eq_none_iff]
    intro e he
    have := h e (by simpa using he)
    simpa using this
  obtain ⟨n1, n2, n3⟩ := new_pairs (w := B.w) (ep := ep) (v := v) (tk := s.toks) hk hpr nd hv
  have put : Obj.putName name (PyData.keyHash B.w.params name) (.str name s.toks) v { cls := .type "dict", dict := none, data := .dict es ep, slots := #[] } = { cls := .type "dict", dict := none, data := .dict (es.push ⟨(PySem.strKind pg B.w).hash name, .str name s.toks, v⟩) (ep + 1), slots := #[] } := by
    rw [Obj.putName_eq]
    unfold Obj.putNameByArray
    simp only [hfi]
    rfl
  have hd2 := Heap.get?_update_self (Obj.putName name (PyData.keyHash B.w.params name) (.str name s.toks) v) ho (by rw [put]; rfl)
  rw [put] at hd2
  refine q _ (S.upd (c' := .dS (kv.map (fun p => (p.1, er p.2)) ++ [(name, er v)])) (tk := s.toks + 1) hd (fun b o hb e => (Heap.get?_update_ne _ _ _ _ hb).trans e) ⟨kv ++ [(name, v)], ⟨_, _, _, hd2, ⟨rfl, rfl, rfl⟩, rfl, n1, n2, n3⟩, by rw [List.map_append]; rfl⟩)
/-- a new dict for keywords -/
theorem kwdict {s : Shared} (S : St B φ σ s) : St B φ (σ.upd s.heap.objs.size (.dS [])) { s with heap := s.heap.push { cls := .type "dict", data := .dict #[] } } ∧ σ s.heap.objs.size = none :=
  ⟨S.alloc (c := .dS []) (tk := s.toks) (fun b o e => Heap.get?_push_of_some _ e) ⟨[], Heap.DictOf.new _, rfl⟩, S.fresh.1⟩
end
end Mine
end
section
open PySem PySem.W PyProof.Rows
set_option maxRecDepth 100000
set_option Elab.async false
set_option linter.unusedVariables false
set_option maxHeartbeats 400000
namespace Mine
/-- no target is a local name -/
noncomputable def noLocal (env : Env) : Expr → Prop
  | .Name id _ => env.kindOf id ≠ some .local
  | _ => True
theorem swapped_none {t : Expr} {ts vs : List Expr} {k k' : Nat} {tp tp' : Pos} {env : Env} (h : noLocal env t) : swappedStores [.Tuple (t :: ts) k tp] (.Tuple vs k' tp') env = pure none := by
  unfold swappedStores
  dsimp only
  split
  · rfl
  split
  · rfl
  have key : ∀ (g : Expr → Option Str), g t = none → ((t :: ts).filterMap g).length ≤ ts.length := by
    intro g hg
    rw [List.filterMap_cons, hg]
    exact List.length_filterMap_le _ _
  rw [if_pos]
  refine Bool.or_eq_true _ _ |>.mpr (.inl ?_)
  refine bne_iff_ne.mpr (Nat.ne_of_lt (Nat.lt_succ_of_le (key _ ?_)))
  cases t with
  | Name id pos =>
    have h' : env.kindOf id ≠ some .local := h
    have : (env.kindOf id == some NameKind.local) = false := beq_eq_false_iff_ne.mpr h'
    dsimp only
    rw [this]; rfl
  | _ => rfl
theorem swapped_two {x y : Str} {xp yp : Pos} {e₁ e₂ : Expr} {k k' : Nat} {tp tp' : Pos} {env : Env} (hk : env.scope.kind = .function) (hx : env.kindOf x = some .local) (hy : env.kindOf y = some .local)
    (hl : (yp.line == xp.line) = true) (hxy : (x == y) = false) (hf : [e₁, e₂].all (foldedForSure 8) = false) (hc : [e₁, e₂].all (constantsAlone 8) = false) (hst : ([e₁, e₂].any fun | .Starred .. => true | _ => false) = false) :
    swappedStores [.Tuple [.Name x xp, .Name y yp] k tp] (.Tuple [e₁, e₂] k' tp') env = pure (some [x, y]) := by
  have hxl : (xp.line == xp.line) = true := beq_self_eq_true _
  have hb : (env.blockKind != ScopeKind.function) = false := by unfold Env.blockKind; rw [hk]; rfl
  have h1 : ((env.kindOf x == some NameKind.local) && (xp.line == ((([Expr.Name x xp, Expr.Name y yp] : List Expr).head?.map (·.pos.line)).getD 0))) = true := by rw [hx]; exact hxl
  have h2 : ((env.kindOf y == some NameKind.local) && (yp.line == ((([Expr.Name x xp, Expr.Name y yp] : List Expr).head?.map (·.pos.line)).getD 0))) = true := by rw [hy]; exact hl
  have hd : ([x, y] : List Str).eraseDups = [x, y] := by
    have : (y == x) = false := by rw [Bool.beq_comm]; exact hxy
    simp [List.eraseDups_cons, this]
  have key : ∀ (g : Expr → Option Str), g (Expr.Name x xp) = some x → g (Expr.Name y yp) = some y → ([Expr.Name x xp, Expr.Name y yp].filterMap g) = [x, y] := by
    intro g h1 h2
    rw [List.filterMap_cons, h1]; dsimp only
    rw [List.filterMap_cons, h2]; rfl
  unfold swappedStores
  dsimp only
  rw [if_neg (by rw [hb]; simp)]
  refine Eq.trans (if_neg ?_) ?_
  · intro h; exact absurd (hst.symm.trans h) (by decide)
  rw [key _ (if_pos h1) (if_pos h2), hd, if_neg (by simp), if_neg (by rw [hf]; decide), if_neg (by rw [hc]; decide)]
section
variable {B : Bd} {φ : Phi} {A : Around} {f : Fm} {m : LM} {σ : Sig} {E : Value → Shared → Prop}
noncomputable def SwapQ (m : LM) (x y : Str) (Q : Fl → LM → Sig → Prop) (v : Val) (τ : Sig) : Prop := ∃ t a b, v = .ref t ∧ τ t = some (.tup [a, b]) ∧ ∃ m₁ m₂, Sto m y b m₁ ∧ Sto m₁ x a m₂ ∧ Q .next m₂ τ
/-- x, y = (e₁, e₂) where x and y are local names of one line -/
theorem Ex.swap2 {x y : Str} {xp yp tp tp' pos : Pos} {e₁ e₂ : Expr} {k k' : Nat} {Q : Fl → LM → Sig → Prop} (hh : A.handled = none)
    (h : Ev B φ A f m e₁ σ (fun a σ₁ => Ev B φ A f m e₂ σ₁ (fun b σ₂ => ∀ t, σ₂ t = none → ∃ m₁ m₂, Sto m y b m₁ ∧ Sto m₁ x a m₂ ∧ Q .next m₂ (σ₂.upd t (.tup [a, b]))) E) E)
    {o o' : Option Val} (hxl' : (x, o) ∈ m) (hyl' : (y, o') ∈ m)
    (he : starEach [e₁, e₂] f.env = (false, eval e₁ f.env) :: starEach [e₂] f.env := by rfl) (he' : starEach [e₂] f.env = (false, eval e₂ f.env) :: starEach [] f.env := by rfl)
    (hl : (yp.line == xp.line) = true := by rfl) (hxy : (x == y) = false := by rfl) (hf : [e₁, e₂].all (foldedForSure 8) = false := by rfl) (hc : [e₁, e₂].all (constantsAlone 8) = false := by rfl)
    (hst : ([e₁, e₂].any fun | .Starred .. => true | _ => false) = false := by rfl)
    (hs : swapsWithSole [.Tuple [.Name x xp, .Name y yp] k tp] (.Tuple [e₁, e₂] k' tp') pos.line f.env = Pure.pure false := by rfl) :
    Ex B φ A f m (.Assign [.Tuple [.Name x xp, .Name y yp] k tp] (.Tuple [e₁, e₂] k' tp') pos) σ Q E := fun s F S => by
  obtain ⟨_, ok, _⟩ := (S.ph _ (.head _)).1
  have hxl : x ∈ m.map (·.1) := List.mem_map_of_mem (f := (·.1)) hxl'
  have hyl : y ∈ m.map (·.1) := List.mem_map_of_mem (f := (·.1)) hyl'
  refine Assign_Tuple_swapped (names := [x, y]) ?_ hs (swapped_two ok.kind (ok.loc _ hxl) (ok.loc _ hyl) hl hxy hf hc hst)
  have hel : El B φ A f m tp' [e₁, e₂] σ (fun vs σ₁ => vs.length ≤ 1000 ∧ ∀ t, σ₁ t = Option.none → SwapQ m x y Q (.ref t) (σ₁.upd t (.tup vs))) E :=
    El.cons (h.mono fun a σ₁ h₁ => El.cons (h₁.mono fun b σ₂ h₂ => El.nil ⟨by simp, fun t ht => ⟨t, a, b, rfl, Sig.upd_self, h₂ t ht⟩⟩) he') he
  have hev : Ev B φ A f m (.Tuple [e₁, e₂] k' tp') σ (SwapQ m x y Q) E := Ev.tup hel
  refine wpAny_mono (hev s F S) (fun v s₁ ⟨σ₁, S₁, t, a, b, hv, ht, m₁, m₂, h1, h2, q⟩ => ?_) fun _ _ e => e
  rw [er_ref hv]
  obtain ⟨items, n, ho, e⟩ := S₁.look ht
  obtain ⟨l⟩ := items
  obtain ⟨u, w, rfl, ha, hb⟩ := two_arg (us := l) e
  show wpAny _ _ (unpackItems (.ref t) (#[u, w] : Array Value).size Option.none) _ _ _
  refine unpackItems_tuple (items := #[u, w]) hh ⟨_, ho, rfl, n, rfl⟩ fun h' hx => ?_
  have S₂ := S₁.ext (h' := h') (tk := s₁.toks) fun b o eb => hx b o (Nat.ne_of_lt (Heap.lt_size eb)) eb
  show wpAny _ _ (do holding [u] (bindName f.env y w); holding [] (bindName f.env x u); Pure.pure ()) _ _ _
  subst ha hb
  refine wpAny_bind (wpAny_holding (bindName_ (wpAny_mono (X.stoLoc (Q := fun _ m' τ => m' = m₁ ∧ τ = σ₁) (E := E) h1 ⟨rfl, rfl⟩ _ F S₂) (fun _ s₃ ⟨m₃, σ₃, S₃, e1, e2⟩ => ?_) fun _ _ e => e)))
  subst e1 e2
  refine wpAny_bind (wpAny_holding (bindName_ (wpAny_mono (X.stoLoc (Q := fun _ m' τ => m' = m₂ ∧ τ = σ₃) (E := E) h2 ⟨rfl, rfl⟩ _ F.turn S₃) (fun _ s₄ ⟨m₄, σ₄, S₄, e1, e2⟩ => ?_) fun _ _ e => e)))
  subst e1 e2
  exact wpAny_pure ⟨_, _, S₄, q⟩
/-- a tuple of targets, the first no local name -/
theorem Ex.asgPlaces {t₁ : Expr} {ts vs : List Expr} {k k' : Nat} {tp tp' pos : Pos} {Q : Fl → LM → Sig → Prop} (hn : FmOk B.w f m → noLocal f.env t₁)
    (h : Ev B φ A f m (.Tuple vs k' tp') σ (fun v σ₁ => As B φ A f m (.Tuple (t₁ :: ts) k tp) v σ₁ (fun m' σ' => Q .next m' σ') E) E)
    (hs : swapsWithSole [.Tuple (t₁ :: ts) k tp] (.Tuple vs k' tp') pos.line f.env = Pure.pure false := by rfl) : Ex B φ A f m (.Assign [.Tuple (t₁ :: ts) k tp] (.Tuple vs k' tp') pos) σ Q E := fun s F S => by
  obtain ⟨_, ok, _⟩ := (S.ph _ (.head _)).1
  exact Ex.asgTup h hs (swapped_none (hn ok)) s F S
end
end Mine
end
section
open PySem PySem.W PyProof.Rows
set_option maxRecDepth 100000
set_option Elab.async false
set_option linter.unusedVariables false
namespace Mine
theorem swaps_local {elt : Expr} {gens : List Comprehension} {scope : Scope} {y : Str} {yp pos : Pos} {line : Nat} {env : Env} (hk : env.scope.kind = .function) (hy : env.kindOf y = some .local) (hl : (yp.line == pos.line) = true)
    (hn : (scope.names.any fun (n, k) => n == y && (k == .local || k == .cell)) = false) : swapsWith (.ListComp elt gens scope pos) (some (.Name y yp)) line env = pure true := by
  have e : (env.blockKind == .function && env.kindOf y == some .local && yp.line == (Expr.ListComp elt gens scope pos).pos.line && !(scope.names.any fun (n, k) => n == y && (k == .local || k == .cell))) = true := by
    rw [hn, hy]
    have : env.blockKind = .function := by unfold Env.blockKind; rw [hk]; rfl
    rw [this]
    show (true && true && (yp.line == pos.line) && true) = true
    rw [hl]; rfl
  unfold swapsWith
  dsimp only
  rw [e]
theorem swaps_cell {elt : Expr} {gens : List Comprehension} {scope : Scope} {y : Str} {yp pos : Pos} {line : Nat} {env : Env} (hy : env.kindOf y ≠ some .local) : swapsWith (.ListComp elt gens scope pos) (some (.Name y yp)) line env = pure false := by
  have e : (env.kindOf y == some NameKind.local) = false := beq_eq_false_iff_ne.mpr hy
  unfold swapsWith
  dsimp only
  rw [e, Bool.and_false]
  rfl
section
variable {B : Bd} {φ : Phi} {A : Around} {f : Fm} {m : LM} {σ : Sig} {E : Value → Shared → Prop}
/-- y = [..], y a local name of the comprehension's line -/
theorem Ex.asgCompL {elt target iter : Expr} {ifs : List Expr} {rest : List Comprehension} {scope : Scope} {y : Str} {o : Option Val} {yp pos spos : Pos} {ls : List Str} {fr : List (Str × Addr)} {gl : List (Str × Value)} {vs : List Val} {R : Sig → Prop} {P : List Val → Sig → Prop} {Q : Fl → LM → Sig → Prop}
    (hy : (y, o) ∈ m) (hchk : compChk scope ls (fr.map (·.1)) (gl.map (·.1)) = true) (hin : ∀ q ∈ fr, q ∈ f.cells) (hgv : ∀ q ∈ gl, GVal B.w q.1 q.2)
    (h : Ev B φ A f m iter σ (fun v σ₁ => It B ((f.env.locals, .fr f m) :: φ) A v σ₁ vs R (fun σ₂ => CompLoop B ((f.env.locals, .fr f m) :: φ) A elt (⟨target, iter, ifs, 0⟩ :: rest) scope pos ls fr gl vs R σ₂ P)) E)
    (fin : ∀ ys σ' a, P ys σ' → σ' a = Option.none → ∃ m', Sto m y (.ref a) m' ∧ Q .next m' (σ'.upd a (.list ys)))
    (hs : ∀ x, foldedSetIterable iter f.env x = pure x := by intro _; rfl) (hl : (yp.line == pos.line) = true := by rfl)
    (hn : (scope.names.any fun (n, k) => n == y && (k == .local || k == .cell)) = false := by rfl) :
    Ex B φ A f m (.Assign [.Name y yp] (.ListComp elt (⟨target, iter, ifs, 0⟩ :: rest) scope pos) spos) σ Q E := fun s F S => by
  obtain ⟨_, ok, _⟩ := (S.ph _ (.head _)).1
  exact Ex.asgComp (swaps_local ok.kind (ok.loc _ (List.mem_map_of_mem (f := (·.1)) hy)) hl hn) hchk hin hgv h fin hs s F S
/-- y = [..], y a cell -/
theorem Ex.asgCompC {elt : Expr} {gens : List Comprehension} {scope : Scope} {y : Str} {c : Addr} {yp pos spos : Pos} {Q : Fl → LM → Sig → Prop} (hc : (y, c) ∈ f.cells)
    (h : Ev B φ A f m (.ListComp elt gens scope pos) σ (fun v σ₁ => ∃ o, σ₁ c = some (.cel o) ∧ Q .next m (σ₁.upd c (.cel (some v)))) E) :
    Ex B φ A f m (.Assign [.Name y yp] (.ListComp elt gens scope pos) spos) σ Q E := fun s F S => by
  obtain ⟨_, ok, _⟩ := (S.ph _ (.head _)).1
  refine Ex.asgC (h.mono fun v σ₁ ⟨o, h1, h2⟩ => ⟨c, o, hc, h1, h2⟩) (swaps_cell fun e => ?_) s F S
  rcases (ok.cell _ hc).1 with k | k
  · rw [k] at e; cases e
  · rw [k.1] at e; cases e
/-- x = e, x a cell, e no comprehension -/
theorem Ex.asgC' {x : Str} {xp pos : Pos} {e : Expr} {c : Addr} {Q : Fl → LM → Sig → Prop} (hc : (x, c) ∈ f.cells) (h : Ev B φ A f m e σ (fun v σ₁ => ∃ o, σ₁ c = some (.cel o) ∧ Q .next m (σ₁.upd c (.cel (some v)))) E)
    (hs : swapsWith e (some (.Name x xp)) pos.line f.env = pure false := by rfl) : Ex B φ A f m (.Assign [.Name x xp] e pos) σ Q E :=
  Ex.asgC (h.mono fun v σ₁ ⟨o, h1, h2⟩ => ⟨c, o, hc, h1, h2⟩) hs
end
end Mine
end
section
open PySem PySem.W PyProof.Rows
set_option maxRecDepth 100000
set_option Elab.async false
set_option linter.unusedVariables false
namespace Mine
section
variable {B : Bd} {φ : Phi} {A : Around} {σ : Sig} {E : Value → Shared → Prop}
/-- a def with cells of its own, called by place -/
theorem Cl.defK {a : Addr} {o : Obj} {fd : FuncData} {body : List Stmt} {vs : List Val} {ps ls : List Str} {gl : List (Str × Value)} {Q : Val → Sig → Prop} {k : Nat}
    (hA : AOk A (k + 1)) (hK : (K0 B.w).lookup a = some o) (hd : o.data = .func fd) (hcode : codeIn (K0 B.w) fd.code fd.qualname = true) (hb : fd.body = .stmts body)
    (hbind : ∀ us, us.length = vs.length → bindArgs fd ⟨us, []⟩ = pure (ps.zip us))
    (hchk : fmChk fd.scope ls (cellNames fd.scope.names) (gl.map (·.1)) = true) (hnd : (cellNames fd.scope.names).Nodup) (hgv : ∀ p ∈ gl, GVal B.w p.1 p.2)
    (h : ∀ env A' E' as, AOk A' k → A' = A.deeper env → E' = ELeave B.w A' env E → PassesOwn (M0 B.w) A' env E' →
      as.length = (cellNames fd.scope.names).length → freshCs as σ → BindK ((cellNames fd.scope.names).zip as)
        (fun m σ' => Es B φ A' ⟨env, (cellNames fd.scope.names).zip as, gl⟩ m body σ' (fun r _ σ'' => Q (retOf r) σ'') E') (ps.zip vs) (nones ls) (newCs as σ))
    (hcl : fd.closure = [] := by rfl) (hgl : fd.globals = mainGlobals := by rfl) (hbl : fd.builtins = builtinsNs := by rfl)
    (hco : fd.scope.isCoroutine = false := by rfl) (hgen : fd.scope.isGenerator = false := by rfl) (hk : fd.scope.kind = .function := by rfl) :
    Cl B φ A (.ref a) vs [] σ Q E := by
  refine Cl.defC (k := k) (ls := ls) (gl := gl) hA (fun s S => ⟨S.kin _ _ hK, codeRec_of S.kin hcode⟩) hd hb (by rw [hcl, List.map_nil, List.append_nil]; exact hchk) (by rw [hcl, List.map_nil, List.append_nil]; exact hnd) hgv ?_ hgl hbl hco hgen hk
  intro us ks hu hks s F S
  obtain rfl := no_kw hks
  have hul : us.length = vs.length := by rw [← hu, List.length_map]
  rw [hbind us hul]
  refine wpAny_pure ⟨σ, S, ?_⟩
  intro env A' E' as h1 h2 h3 h4 h5 h6
  have e : ownCs fd.scope.names as fd.closure = (cellNames fd.scope.names).zip as := by unfold ownCs; rw [hcl, List.append_nil]
  rw [e]
  have e2 : (ps.zip us).map (fun p => (p.1, er p.2)) = ps.zip vs := by rw [← hu, List.zip_map_right]; rfl
  rw [e2]
  exact h env A' E' as h1 h2 h3 h4 h5 h6
end
end Mine
end
section
open PySem PySem.W PyProof.Rows
set_option maxRecDepth 100000
set_option Elab.async false
set_option linter.unusedVariables false
namespace Mine
section
variable {B : Bd} {φ : Phi} {A : Around} {σ : Sig} {E : Value → Shared → Prop}
/-! defs that make defs: the frame's code and name are told -/
theorem Cd.defE {a : Addr} {o : Obj} {fd : FuncData} {body : List Stmt} {vs : List Val} {kw : List (Str × Val)} {ls : List Str} {gl : List (Str × Value)} {Q : Val → Sig → Prop} {k : Nat}
    (hA : AOk A (k + 1)) (hfo : ∀ s, St B φ σ s → s.heap.get? a = some o ∧ s.heap.CodeRec fd.code fd.qualname) (hd : o.data = .func fd) (hb : fd.body = .stmts body)
    (hchk : fmChk fd.scope ls (cellNames fd.scope.names ++ fd.closure.map (·.1)) (gl.map (·.1)) = true) (hnd : (cellNames fd.scope.names ++ fd.closure.map (·.1)).Nodup) (hgv : ∀ p ∈ gl, GVal B.w p.1 p.2)
    (h : ∀ us ks, us.map er = vs → ks.map (fun p : Str × Value => (p.1, er p.2)) = kw → T B φ A.in1 (bindArgs fd ⟨us, ks⟩) σ (fun binds σ₁ => ∀ env A' E' as, AOk A' k → A' = A.deeper env → E' = ELeave B.w A' env E → PassesOwn (M0 B.w) A' env E' →
      as.length = (cellNames fd.scope.names).length → freshCs as σ₁ → env.code = fd.code → env.qual = fd.qualname ++ ".<locals>." → BindK (ownCs fd.scope.names as fd.closure)
        (fun m σ' => Es B φ A' ⟨env, ownCs fd.scope.names as fd.closure, gl⟩ m body σ' (fun r _ σ'' => Q (retOf r) σ'') E') (binds.map fun p => (p.1, er p.2)) (nones ls) (newCs as σ₁)) E)
    (hgl : fd.globals = mainGlobals := by rfl) (hbl : fd.builtins = builtinsNs := by rfl)
    (hco : fd.scope.isCoroutine = false := by rfl) (hgen : fd.scope.isGenerator = false := by rfl) (hk : fd.scope.kind = .function := by rfl) :
    Cd B φ A (.ref a) vs kw σ Q E := fun us ks hu hks s F S => by
  refine (codeAny_call_function (by have := hA.d; show A.depth < 1000; omega) (hfo s S).1 hd hco hgen hb (hfo s S).2 (wpAny_mono (h us ks hu hks s F.in1 S) (fun binds s₁ ⟨σ₁, S₁, h₁⟩ => ?_) fun _ _ e => e))
  rw [hgl, hbl]
  refine newEnv_T (ls := ls) (gl := gl) (fun L c => FrOk.cons F.in1) S₁ hchk hnd hgv (fun e he => by cases he) fun as hl hfr => ?_
  generalize henv : newEnv fd.scope s₁.heap.objs.size mainGlobals (((cellNames fd.scope.names).zip as).reverse ++ fd.closure) (fd.qualname ++ ".<locals>.") (some a) fd.code none builtinsNs = env₀
  have hloc₀ : env₀.locals = s₁.heap.objs.size := by rw [← henv]; rfl
  have hscope₀ : env₀.scope = fd.scope := by rw [← henv]; rfl
  have hframe₀ : env₀.frame = some s₁.heap.objs.size := by rw [← henv]; rfl
  have h₂ := h₁ env₀ (A.deeper env₀) (ELeave B.w (A.deeper env₀) env₀ E) as (hA.deeper (Nat.le_refl _)) rfl rfl ELeave.passes hl hfr (by rw [← henv]; rfl) (by rw [← henv]; rfl)
  -- carry the triple over to what the frame asks
  have key : ∀ (bs : List (Str × Val)) (m : LM) (τ : Sig) (K K' : LM → Sig → Prop), (∀ m τ, K m τ → K' m τ) → BindK (ownCs fd.scope.names as fd.closure) K bs m τ → BindK (ownCs fd.scope.names as fd.closure) K' bs m τ := by
    intro bs
    induction bs with
    | nil => intro m τ K K' i hh; exact i _ _ hh
    | cons p r ih =>
      intro m τ K K' i hh
      rcases hh with ⟨m', a1, a2⟩ | ⟨c, o, a1, a2, a3⟩
      · exact .inl ⟨m', a1, ih _ _ _ _ i a2⟩
      · exact .inr ⟨c, o, a1, a2, ih _ _ _ _ i a3⟩
  refine key _ _ _ _ _ (fun m τ hEs s₂ env hloc S₂ he => ?_) h₂
  subst he
  refine ⟨S₂.drop.nolim, codeAny_func ?_⟩
  subst henv
  refine wpAny_mono (hEs s₂ (F.deeper (by rw [hscope₀, hk]; decide) (by rw [hframe₀, hloc₀])) (by rw [hloc₀]; exact S₂)) (fun r s' hr => ?_) fun _ _ e => e
  obtain ⟨m', σ', S'', q⟩ := hr
  refine ⟨σ', S''.drop, ?_⟩
  cases r <;> exact q
theorem ClN.defE {a : Addr} {o : Obj} {fd : FuncData} {body : List Stmt} {vs : List Val} {kw : List (Str × Val)} {ls : List Str} {gl : List (Str × Value)} {Q : Val → Sig → Prop} {k : Nat}
    (hA : AOk A (k + 1)) (hfo : ∀ s, St B φ σ s → s.heap.get? a = some o ∧ s.heap.CodeRec fd.code fd.qualname) (hd : o.data = .func fd) (hb : fd.body = .stmts body)
    (hchk : fmChk fd.scope ls (cellNames fd.scope.names ++ fd.closure.map (·.1)) (gl.map (·.1)) = true) (hnd : (cellNames fd.scope.names ++ fd.closure.map (·.1)).Nodup) (hgv : ∀ p ∈ gl, GVal B.w p.1 p.2)
    (h : ∀ us ks, us.map er = vs → ks.map (fun p : Str × Value => (p.1, er p.2)) = kw → T B φ A.in1 (bindArgs fd ⟨us, ks⟩) σ (fun binds σ₁ => ∀ env A' E' as, AOk A' k → A' = A.deeper env → E' = ELeave B.w A' env E → PassesOwn (M0 B.w) A' env E' →
      as.length = (cellNames fd.scope.names).length → freshCs as σ₁ → env.code = fd.code → env.qual = fd.qualname ++ ".<locals>." → BindK (ownCs fd.scope.names as fd.closure)
        (fun m σ' => EsN B φ A' ⟨env, ownCs fd.scope.names as fd.closure, gl⟩ m body σ' (fun r _ σ'' => Q (retOf r) σ'') E') (binds.map fun p => (p.1, er p.2)) (nones ls) (newCs as σ₁)) E)
    (hgl : fd.globals = mainGlobals := by rfl) (hbl : fd.builtins = builtinsNs := by rfl)
    (hco : fd.scope.isCoroutine = false := by rfl) (hgen : fd.scope.isGenerator = false := by rfl) (hk : fd.scope.kind = .function := by rfl) :
    ClN B φ A (.ref a) vs kw σ Q E := fun us ks hu hks s F S => by
  refine wpN.call (codeN.function (by have := hA.d; show A.depth < 1000; omega) (hfo s S).1 hd hco hgen hb (hfo s S).2 (wpAny_mono (h us ks hu hks s F.in1 S) (fun binds s₁ ⟨σ₁, S₁, h₁⟩ => ?_) fun _ _ e => e))
  rw [hgl, hbl]
  refine newEnv_T (ls := ls) (gl := gl) (fun L c => FrOk.cons F.in1) S₁ hchk hnd hgv (fun e he => by cases he) fun as hl hfr => ?_
  generalize henv : newEnv fd.scope s₁.heap.objs.size mainGlobals (((cellNames fd.scope.names).zip as).reverse ++ fd.closure) (fd.qualname ++ ".<locals>.") (some a) fd.code none builtinsNs = env₀
  have hloc₀ : env₀.locals = s₁.heap.objs.size := by rw [← henv]; rfl
  have hscope₀ : env₀.scope = fd.scope := by rw [← henv]; rfl
  have hframe₀ : env₀.frame = some s₁.heap.objs.size := by rw [← henv]; rfl
  have h₂ := h₁ env₀ (A.deeper env₀) (ELeave B.w (A.deeper env₀) env₀ E) as (hA.deeper (Nat.le_refl _)) rfl rfl ELeave.passes hl hfr (by rw [← henv]; rfl) (by rw [← henv]; rfl)
  have key : ∀ (bs : List (Str × Val)) (m : LM) (τ : Sig) (K K' : LM → Sig → Prop), (∀ m τ, K m τ → K' m τ) → BindK (ownCs fd.scope.names as fd.closure) K bs m τ → BindK (ownCs fd.scope.names as fd.closure) K' bs m τ := by
    intro bs
    induction bs with
    | nil => intro m τ K K' i hh; exact i _ _ hh
    | cons p r ih =>
      intro m τ K K' i hh
      rcases hh with ⟨m', a1, a2⟩ | ⟨c, o, a1, a2, a3⟩
      · exact .inl ⟨m', a1, ih _ _ _ _ i a2⟩
      · exact .inr ⟨c, o, a1, a2, ih _ _ _ _ i a3⟩
  refine key _ _ _ _ _ (fun m τ hEs s₂ env hloc S₂ he => ?_) h₂
  subst he
  refine ⟨S₂.drop.nolim, codeN.func ?_⟩
  subst henv
  refine wpN.mono (hEs s₂ (F.deeper (by rw [hscope₀, hk]; decide) (by rw [hframe₀, hloc₀])) (by rw [hloc₀]; exact S₂)) (fun r s' hr => ?_) fun _ _ e => e
  obtain ⟨m', σ', S'', q⟩ := hr
  refine ⟨σ', S''.drop, ?_⟩
  cases r <;> exact q
end
/-- a code object of a name -/
noncomputable def codeC (q : Str) : Cell := .pr fun o => ∃ vs t, o.data = .fields vs ∧ vs[1]? = some (.str q t)
theorem St.codeRec {B : Bd} {φ : Phi} {σ : Sig} {s : Shared} (S : St B φ σ s) {c : Addr} {q : Str} (h : σ c = some (codeC q)) : s.heap.CodeRec (.ref c) q := by
  obtain ⟨o, ho, vs, t, h1, h2⟩ := S.look h
  exact ⟨c, o, vs, t, rfl, ho, h1, h2⟩
theorem St.add {B : Bd} {φ : Phi} {σ : Sig} {s : Shared} (S : St B φ σ s) {a : Addr} {c : Cell} (hc : CellAt B.w s.heap a c) (h1 : ∀ p ∈ φ, p.1 ≠ a) (h2 : B.H.get? a = none) (h3 : 3 < a) : St B φ (σ.upd a c) s := by
  obtain ⟨b, e, kp, d, f, g⟩ := S
  refine ⟨b, e, kp, fun x y q => ?_, fun p q => ⟨(f p q).1, (f p q).2.1, (Sig.upd_ne (h1 p q)).trans (f p q).2.2.1, (f p q).2.2.2⟩, g⟩
  unfold Sig.upd at q
  split at q
  · rename_i z; cases q; subst z; exact ⟨hc, h2, h3⟩
  · exact d x y q
/-- what is not yet there -/
theorem St.above {B : Bd} {φ : Phi} {σ : Sig} {s : Shared} (S : St B φ σ s) {x : Addr} (hx : s.heap.objs.size ≤ x) : σ x = none ∧ (∀ p ∈ φ, p.1 ≠ x) ∧ B.H.get? x = none ∧ 3 < x := by
  have old : ∀ y o, s.heap.get? y = some o → y ≠ x := fun y o q z => absurd (Heap.lt_size q) (by rw [z]; exact Nat.not_lt.mpr hx)
  refine ⟨?_, fun p hp => ?_, ?_, Nat.lt_of_lt_of_le S.big hx⟩
  · cases q : σ x with
    | none => rfl
    | some c => obtain ⟨o, ho⟩ := (S.sg _ _ q).1.ex; exact absurd rfl (old _ _ ho)
  · obtain ⟨o, ho⟩ := (S.ph p hp).1.ex; exact old _ _ ho
  · cases q : B.H.get? x with
    | none => rfl
    | some o => exact absurd rfl (old _ _ (S.keep _ _ q))
theorem codeHd_S {B : Bd} {φ : Phi} {σ : Sig} {s : Shared} (S : St B φ σ s) {c P : Addr} (h : codeHdIn (K0 B.w) c P = true) : CodeHd s.heap c P := codeHd_of_K S.kin h
theorem St.builtinsAt {B : Bd} {φ : Phi} {σ : Sig} {s : Shared} (S : St B φ σ s) {P : Addr} {ps : Array Value} (hP : σ P = some (.obj (tabObj ps))) : ∃ mg, s.heap.Ns mainGlobals mg ∧ mainGlobals ≠ P ∧ s.heap.BuiltinsAt mg P := by
  obtain ⟨loose, mean, mg, mb, T⟩ := S.bs.top
  have hgs := T.g.keeps S.keep
  have hP' : s.heap.get? P = some (tabObj ps) := S.look hP
  obtain ⟨bm, ob, b1, b2, b3, b4, b5, b6⟩ := T.bmain
  have hgP : mainGlobals ≠ P := fun q => by
    obtain ⟨o, es, ep, e, hd, _⟩ := hgs
    rw [q, hP'] at e; cases e; cases hd
  have hbP : bm ≠ P := fun q => by
    have e := S.keep _ _ b3
    rw [q, hP'] at e; cases e; cases b4
  have hbG : bm ≠ mainGlobals := fun q => by
    obtain ⟨o, es, ep, e, hd, _⟩ := T.g
    rw [q, e] at b3; cases b3; rw [hd] at b6; cases b6
  exact ⟨mg, hgs, hgP, bm, ob, b1, b2, hbG, hbP, S.keep _ _ b3, b4, b5, b6⟩
section
variable {B : Bd} {φ : Phi} {A : Around} {f : Fm} {m : LM} {σ : Sig} {E : Value → Shared → Prop} {Q : Fl → LM → Sig → Prop}
variable {name qual : Str} {params : Arguments} {body : List Stmt} {scope : Scope} {pos : Pos} {c P : Addr} {ps : Array Value} {fr : List (Str × Addr)} {o : Option Val}
/-- def name(..): the code is made -/
theorem Ex.defNew (hm : (name, o) ∈ m) (hcode : f.env.code = .ref c) (hqual : f.env.qual ++ name = qual) (hC : codeHdIn (K0 B.w) c P = true) (hP : σ P = some (.obj (tabObj ps))) (ht : TriplesOk ps.toList) (hnf : codeAmong pos ps.toList = none)
    (hfr : frees scope.names = fr.map (·.1)) (hin : ∀ p ∈ fr, p ∈ f.cells)
    (q : ∀ g c' doc pm ctv, σ g = none → σ c' = none → g ≠ c' → ∃ m', Sto m name (.ref g) m' ∧ Q .next m' (((σ.upd P (.obj (tabObj (ps ++ #[rawInt pos.line, rawInt pos.col, .ref c'])))).upd c' (codeC qual)).upd g (.obj (fnMade name qual params body scope fr.reverse doc pm c' ctv))))
    (hd0 : params.defaults = [] := by rfl) (hk0 : params.kw_defaults = [] := by rfl) (ha : annTrees params none f.env = [] := by rfl) :
    Ex B φ A f m (.FunctionDef name params body [] none [] scope none name pos) σ Q E := fun s F S => by
  obtain ⟨_, ok, _⟩ := (S.ph _ (.head _)).1
  have hloc := ok.loc _ (List.mem_map_of_mem (f := (·.1)) hm)
  have hqn : qualnameIn f.env name name = qual := by unfold qualnameIn; rw [hloc]; exact hqual
  obtain ⟨mg, hgs, hgP, hb⟩ := S.builtinsAt hP
  have hP' : s.heap.get? P = some (tabObj ps) := S.look hP
  refine nestDef_K hd0 hk0 ha ?_
  rw [hqn]
  refine makeFunction_K (mg := mg) (closureFor_is hfr fun p hp => (ok.cell p (hin p hp)).2) ok.glob hgs hcode (codeHd_S S hC) hP' ht hnf hgP hb fun c' ctv doc h' tk hx hge hlt hrec htb => ?_
  obtain ⟨c₂, oc, vs, t, e2, hoc, hd, hv⟩ := hrec
  cases e2
  have hgs' : s.heap.objs.size ≤ h'.objs.size := Nat.le_of_lt (Nat.lt_of_le_of_lt hge hlt)
  obtain ⟨f1, f2, f3, f4⟩ := S.above hge
  obtain ⟨g1, g2, g3, g4⟩ := S.above hgs'
  have ne : h'.objs.size ≠ c' := Nat.ne_of_gt hlt
  have cP : c' ≠ P := fun z => by have := Heap.lt_size hP'; rw [← z] at this; exact absurd this (Nat.not_lt.mpr hge)
  have gP : h'.objs.size ≠ P := fun z => by have := Heap.lt_size hP'; rw [← z] at this; exact absurd this (Nat.not_lt.mpr hgs')
  obtain ⟨m', hst, hq⟩ := q h'.objs.size c' doc ((mg "__name__").getD .none) ctv g1 f1 ne
  have S1 := S.upd (c' := .obj (tabObj (ps ++ #[rawInt pos.line, rawInt pos.col, .ref c']))) (h' := h'.push (fnMade name qual params body scope fr.reverse doc ((mg "__name__").getD .none) c' ctv)) (tk := tk) hP (fun b o hb e => Heap.get?_push_of_some _ (hx b o hb e)) (Heap.get?_push_of_some _ htb)
  have S2 := S1.add (a := c') (c := codeC qual) ⟨oc, Heap.get?_push_of_some _ hoc, vs, t, hd, hv⟩ f2 f3 f4
  have S3 := S2.add (a := h'.objs.size) (c := .obj (fnMade name qual params body scope fr.reverse doc ((mg "__name__").getD .none) c' ctv)) (Heap.get?_push_size _ rfl) g2 g3 g4
  exact wpAny_mono (X.stoLoc (Q := fun _ => Q .next) (E := E) hst hq _ F S3) (fun _ _ z => z) fun _ _ e => e
/-- def name(..): the code is there -/
theorem Ex.defHit {c' : Addr} (hm : (name, o) ∈ m) (hcode : f.env.code = .ref c) (hqual : f.env.qual ++ name = qual) (hC : codeHdIn (K0 B.w) c P = true) (hP : σ P = some (.obj (tabObj ps))) (ht : TriplesOk ps.toList) (hf : codeAmong pos ps.toList = some (.ref c'))
    (hfr : frees scope.names = fr.map (·.1)) (hin : ∀ p ∈ fr, p ∈ f.cells)
    (q : ∀ g doc pm ctv, σ g = none → ∃ m', Sto m name (.ref g) m' ∧ Q .next m' (σ.upd g (.obj (fnMade name qual params body scope fr.reverse doc pm c' ctv))))
    (hd0 : params.defaults = [] := by rfl) (hk0 : params.kw_defaults = [] := by rfl) (ha : annTrees params none f.env = [] := by rfl) :
    Ex B φ A f m (.FunctionDef name params body [] none [] scope none name pos) σ Q E := fun s F S => by
  obtain ⟨_, ok, _⟩ := (S.ph _ (.head _)).1
  have hloc := ok.loc _ (List.mem_map_of_mem (f := (·.1)) hm)
  have hqn : qualnameIn f.env name name = qual := by unfold qualnameIn; rw [hloc]; exact hqual
  obtain ⟨mg, hgs, hgP, hb⟩ := S.builtinsAt hP
  have hP' : s.heap.get? P = some (tabObj ps) := S.look hP
  refine nestDef_K hd0 hk0 ha ?_
  rw [hqn]
  refine makeFunction_hit (mg := mg) (closureFor_is hfr fun p hp => (ok.cell p (hin p hp)).2) ok.glob hgs hcode (codeHd_S S hC) hP' ht hf hb fun ctv doc h' tk hk hsz => ?_
  obtain ⟨g1, g2, g3, g4⟩ := S.above hsz
  obtain ⟨m', hst, hq⟩ := q h'.objs.size doc ((mg "__name__").getD .none) ctv g1
  have S1 := S.ext (h' := h'.push (fnMade name qual params body scope fr.reverse doc ((mg "__name__").getD .none) c' ctv)) (tk := tk) (fun b o e => Heap.get?_push_of_some _ (hk b o e))
  have S3 := S1.add (a := h'.objs.size) (c := .obj (fnMade name qual params body scope fr.reverse doc ((mg "__name__").getD .none) c' ctv)) (Heap.get?_push_size _ rfl) g2 g3 g4
  exact wpAny_mono (X.stoLoc (Q := fun _ => Q .next) (E := E) hst hq _ F S3) (fun _ _ z => z) fun _ _ e => e
end
end Mine
end
section
open PySem PySem.W PySem.Calls PyProof.Rows
set_option maxRecDepth 100000
set_option Elab.async false
set_option linter.unusedVariables false
namespace Mine
section
variable {B : Bd} {φ : Phi} {A : Around} {f : Fm} {m : LM} {σ : Sig} {E : Value → Shared → Prop} {Q : Val → Sig → Prop}
/-- iter(list) -/
theorem Cl.iterL {l : Addr} {vs : List Val} (hl : σ l = some (.list vs)) (q : ∀ it, σ it = none → Q (.ref it) (σ.upd it (.lit l 0))) : Cl B φ A (.builtin "iter") [.ref l] [] σ Q E := fun us ks hu hk s F S => by
  obtain ⟨a, rfl, ha⟩ := one_arg hu; rw [no_kw hk, er_ref ha]
  obtain ⟨items, n, ho, e⟩ := S.look hl
  refine call_function_entry (by decide +kernel) (by decide +kernel) kdk_entry_iter (kdk_args_iter _) ?_
  unfold Builtin.«iter»
  refine wpAny_bind (m := someArgs "iter" 1 2 _) (wpAny_of_eq (a := [Value.ref l]) (by first | rfl | kernel_rfl!) ?_)
  show wpAny _ _ (pyIter (.ref l) >>= _) _ _ _
  refine wpAny_bind (wpAny_pyIter_list ⟨_, ho, rfl, n, rfl⟩ ?_)
  exact wpAny_pure ⟨_, rfl, _, S.alloc (c := .lit l 0) (fun b o e => Heap.get?_push_of_some _ e) ⟨_, Heap.get?_push_size _ rfl, rfl, rfl⟩, q _ S.fresh.1⟩
/-- next(it), an item more -/
theorem Cl.nextL {it l : Addr} {i : Nat} {vs : List Val} {x : Val} (hi : σ it = some (.lit l i)) (hl : σ l = some (.list vs)) (hx : vs[i]? = some x) (q : Q x (σ.upd it (.lit l (i + 1)))) : Cl B φ A (.builtin "next") [.ref it] [] σ Q E := fun us ks hu hk s F S => by
  obtain ⟨a, rfl, ha⟩ := one_arg hu; rw [no_kw hk, er_ref ha]
  obtain ⟨items, n, hol, e⟩ := S.look hl
  have hit := S.look hi
  obtain ⟨o, ho, hc, hd⟩ := id hit
  subst e
  rw [List.getElem?_map] at hx
  cases q' : items.toList[i]? with
  | none => rw [q'] at hx; cases hx
  | some y =>
    rw [q'] at hx; cases hx
    rw [Array.getElem?_toList] at q'
    refine call_function_entry (by decide +kernel) (by decide +kernel) kdk_entry_next (kdk_args_next _) ?_
    unfold Builtin.«next»
    refine wpAny_bind (m := someArgs "next" 1 2 _) (wpAny_of_eq (a := [Value.ref it]) (by first | rfl | kernel_rfl!) ?_)
    dsimp only
    refine wpAny_bind (wpAny_specialOf (name := Str.ofString "__next__") hit.typeIs slot_listiter_next.lookup ?_)
    refine wpAny_ite_split (fun hab => absurd hab (by decide)) (fun _ => ?_)
    refine wpAny_bind (wpAny_callSpecial?_slot (name := Str.ofString "__next__") hit.typeIs slot_listiter_next (wpAny_call_entry slot_listiter_next hit.typeIs entry_listiter_next ?_ (args_listiter_next _)))
    show wpAny _ _ (field (.ref it) 0 >>= _) _ _ s
    refine wpAny_bind (wpAny_field ho hd (x := .ref l) rfl ?_)
    show wpAny _ _ (if (Value.ref l == Value.none) = true then _ else _) _ _ s
    rw [if_neg (show ¬ ((Value.ref l == Value.none) = true) from Bool.false_ne_true)]
    show wpAny _ _ (field (.ref it) 1 >>= _) _ _ s
    refine wpAny_bind (wpAny_field ho hd (x := .int i 0) rfl ?_)
    show wpAny _ _ (seqItems? (.ref l) >>= _) _ _ s
    refine wpAny_bind (wpAny_seqItems hol rfl ?_)
    simp only [Int.toNat_natCast, q']
    refine wpAny_bind (wpAny_setField ho hd (by simp) (wpAny_pure ⟨y, rfl, wpAny_pure ⟨y, rfl, _, S.upd (c' := .lit l (i + 1)) hi (Heap.SameBut.update ..).extBut ?_, q⟩⟩))
    exact ⟨_, Heap.get?_update_self _ ho (Obj.isFreed_of_fields (Obj.data_mapFields hd _)), (Obj.cls_mapFields ..).trans hc, by
      rw [Obj.data_mapFields hd]; simp [rawInt]⟩
theorem Tr.list {l : Addr} {vs : List Val} {R : Bool → Sig → Prop} (hl : σ l = some (.list vs)) (hz : vs.length ≤ 100000) (q : R (!vs.isEmpty) σ) : Tr B φ A (.ref l) σ R E := fun u hu s F S => by
  rw [er_ref hu]
  obtain ⟨items, n, ho, e⟩ := S.look hl
  subst e
  refine wpAny_truthy_list ⟨_, ho, rfl, n, rfl⟩ (by simp at hz; omega) ⟨σ, S.toks _, ?_⟩
  have : items.isEmpty = (items.toList.map er).isEmpty := by
    rcases items with ⟨l⟩
    cases l <;> rfl
  rw [this]; exact q
/-- {k: v}, k a number -/
theorem Ev.dict1 {ke ve : Expr} {pos : Pos} (h : ∀ a, σ a = Option.none → Ev B φ A f m ke (σ.upd a (.dI [] 0)) (fun k σ₁ => ∃ i, k = .int i ∧ Ev B φ A f m ve σ₁ (fun v σ₂ => σ₂ a = some (.dI [] 0) ∧ ∀ ep, Q (.ref a) (σ₂.upd a (.dI [(i, v)] ep))) E) E) :
    Ev B φ A f m (.Dict [some ke] [ve] pos) σ Q E := fun s F S => by
  have S0 := S.alloc (c := .dI [] 0) (h' := s.heap.push { cls := .type "dict", data := .dict #[] }) (tk := s.toks) (fun b o e => Heap.get?_push_of_some _ e) ⟨[], ⟨_, #[], Heap.get?_push_size _ rfl, ⟨rfl, rfl, rfl⟩, rfl, (by intro e he; simp at he), .nil, .nil⟩, rfl⟩
  have h0 := h _ S.fresh.1
  refine wpAny_Dict_any (s := s) rfl rfl (by simp) (by simp) ?_
  show wpAny (M0 B.w) A (do let kv ← eval ke f.env; let vv ← holding [kv] (do let x ← eval ve f.env; standAt pos; pure x); return (kv, vv) :: (← holding [kv, vv] (evalPairs []))) _ E _
  refine wpAny_bind (wpAny_mono (h0 _ F S0) (fun kv s₁ ⟨σ₁, S₁, i, hk, h₁⟩ => ?_) fun _ _ e => e)
  refine wpAny_bind (wpAny_holding (wpAny_bind (wpAny_mono (h₁ s₁ F S₁) (fun vv s₂ ⟨σ₂, S₂, ha, q⟩ => ?_) fun _ _ e => e)))
  refine wpAny_bind (wpAny_standAt (wpAny_pure ?_))
  refine wpAny_bind (wpAny_holding ?_)
  refine wpAny_pure (wpAny_pure ?_)
  unfold storeAll
  rw [List.forIn_cons]
  obtain ⟨t, rfl⟩ := er_int hk
  obtain ⟨kvs, hd, e⟩ := S₂.look ha
  obtain rfl : kvs = [] := by cases kvs <;> first | rfl | cases e
  refine wpAny_bind (wpAny_bind (wpAny_dictSet_pairs int_key hd.dictOf (fun h' hd' hs => wpAny_pure ?_) (by rw [sizeLine_eq]; simp)))
  refine wpAny_pure ?_
  obtain ⟨ep, hd'⟩ := hd'.dictAt
  exact ⟨_, S₂.upd (c' := .dI [(i, er vv)] ep) ha hs.extBut ⟨_, hd', rfl⟩, q ep⟩
end
end Mine
end
section
open PySem PySem.W PySem.Calls PyProof.Rows
set_option maxRecDepth 100000
set_option Elab.async false
set_option linter.unusedVariables false
set_option maxHeartbeats 1000000
namespace Mine
/-! ### exceptions that pass the frames -/
section
variable {B : Bd} {φ : Phi} {σ : Sig} {s : Shared}
theorem phi_same {φ : Phi} (nd : (φ.map (·.1)).Nodup) {a : Addr} {c d : Cell} (h1 : (a, c) ∈ φ) (h2 : (a, d) ∈ φ) : c = d := by
  induction φ with
  | nil => cases h1
  | cons p r ih =>
    rw [List.map_cons, List.nodup_cons] at nd
    rcases List.mem_cons.mp h1 with e1 | h1 <;> rcases List.mem_cons.mp h2 with e2 | h2
    · rw [← e1] at e2; cases e2; rfl
    · exact absurd (List.mem_map.mpr ⟨_, h2, by rw [← e1]⟩) nd.1
    · exact absurd (List.mem_map.mpr ⟨_, h1, by rw [← e2]⟩) nd.1
    · exact ih nd.2 h1 h2
theorem St.slots (S : St B φ σ s) {as : List Addr} {h' : Heap} {tk : Nat} (x : Heap.SlotsOnly as s.heap h') (ha : ∀ b ∈ as, ∃ f m, (b, Cell.fr f m) ∈ φ) : St B φ σ { s with heap := h', toks := tk } := by
  obtain ⟨b, ⟨h, t, e⟩, kp, d, f, g⟩ := S
  have out : ∀ b o, s.heap.get? b = some o → b ∉ as → h'.get? b = some o := fun b o q n => (x.2.1 b n).trans q
  refine ⟨b, ⟨h', tk, by rw [e]⟩, fun b o q => out b o (kp b o q) fun m => ?_, fun a c q => ⟨CellAt.keep (fun o z => out a o z fun m => ?_) (d a c q).1, (d a c q).2⟩, fun p hp => ⟨?_, (f p hp).2⟩, g⟩
  · obtain ⟨_, _, hm⟩ := ha _ m
    have := (f _ hm).2.1
    rw [q] at this; cases this
  · obtain ⟨_, _, hm⟩ := ha _ m
    have := (f _ hm).2.2.1
    rw [q] at this; cases this
  · by_cases m : p.1 ∈ as
    · obtain ⟨f', m', hm⟩ := ha _ m
      obtain ⟨pa, pc⟩ := p
      obtain rfl := phi_same g hp hm
      obtain ⟨l, ok, mm, ⟨o, es, ep, ho, r⟩, rd⟩ := (f _ hp).1
      obtain ⟨sl, ho'⟩ := x.2.2 _ _ ho
      exact ⟨l, ok, mm, ⟨_, es, ep, ho', r⟩, rd⟩
    · exact CellAt.keep (fun o z => out _ o z m) (f p hp).1
noncomputable abbrev noHeap : Heap := { objs := #[] }
theorem noHeap_get {a : Addr} : noHeap.get? a = none := by
  cases h : noHeap.get? a with
  | none => rfl
  | some o => exact absurd (Heap.lt_size h) (Nat.not_lt_zero _)
theorem St.funFrames (S : St B φ σ s) : ∀ {l : List Env}, (∀ env ∈ l, env.scope.kind ≠ .module ∧ ∃ L f m, env.frame = some L ∧ (L, Cell.fr f m) ∈ φ) → s.heap.FunFrames noHeap l
  | [], _ => trivial
  | env :: r, h => by
    obtain ⟨hk, L, f, m, hf, hm⟩ := h env (.head _)
    obtain ⟨_, _, _, ⟨o, es, ep, ho, hd, _⟩, _⟩ := (S.ph _ hm).1
    exact ⟨hk, ⟨L, o, hf, noHeap_get, ho, fun vs q => by rw [hd] at q; cases q⟩, S.funFrames fun e he => h e (.tail _ he)⟩
/-- an exception of a class without a traceback; with one -/
noncomputable def excN (C : Addr) : Cell := .pr fun o => o.cls = .ref C ∧ ∃ fs : Array Value, o.data = .fields fs ∧ fs[1]? = some .none ∧ fs[2]? = some .none
noncomputable def excT (C T : Addr) : Cell := .pr fun o => o.cls = .ref C ∧ ∃ fs : Array Value, o.data = .fields fs ∧ fs[1]? = some (.ref T) ∧ fs[2]? = some .none
noncomputable def tbC (v : Value) : Cell := .pr fun o => ∃ ts : Array Value, o.data = .fields ts ∧ ts[3]? = some v
theorem St.addH (S : St B φ σ s) {a : Addr} {c : Cell} (hc : CellAt B.w s.heap a c) (h0 : σ a = none) (h1 : ∀ p ∈ φ, p.1 ≠ a) (h2 : B.H.get? a = none) (h3 : 3 < a) : St B ((a, c) :: φ) σ s := by
  obtain ⟨b, e, kp, d, f, g⟩ := S
  refine ⟨b, e, kp, d, fun p hp => ?_, List.nodup_cons.mpr ⟨fun q => ?_, g⟩⟩
  · rcases List.mem_cons.mp hp with rfl | hp
    · exact ⟨hc, h2, h0, h3⟩
    · exact f p hp
  · obtain ⟨p, hp, e⟩ := List.mem_map.mp q; exact h1 p hp e
theorem St.cut2 {p q : Addr × Cell} (S : St B (p :: q :: φ) σ s) : St B (p :: φ) σ s := by
  have := S.swap
  exact this.drop
end
section
variable {B : Bd} {φ : Phi} {A : Around} {σ : Sig} {s : Shared} {E : Value → Shared → Prop} {C e : Addr} {env : Env} {outer : List Env} {L : Addr} {Q : Unit → Shared → Prop}
theorem setF_data {o : Obj} {vs : Array Value} {g : Array Value → Array Value} (hd : o.data = .fields vs) : (o.mapFields g).data = .fields (g vs) := Obj.data_mapFields hd g
/-- the new entry of a traceback -/
theorem entry_T {fs : Array Value} {o : Obj} {head : Value} {b : Bool} (hfr : A.frames = some (env :: outer)) (F : FrOk A φ) (hf : env.frame = some L) (S : St B ((e, .pr fun o => o.cls = .ref C ∧ ∃ fs : Array Value, o.data = .fields fs ∧ 1 < fs.size ∧ fs[2]? = some .none) :: φ) σ s)
    (q : ∀ T s', St B ((T, tbC (rawInt L)) :: (e, excT C T) :: φ) σ s' → Q () s') :
    wpAny (M0 B.w) A (do let a ← frameOf env; let pl ← entryPlaceOf L b; let r ← EntryCells.newEntry head a .none (rawInt L) .none pl; setField (.ref e) 1 r) Q E s := by
  obtain ⟨_, l, hl, hfm⟩ := F
  rw [hfr] at hl; cases hl
  have hfm' : ∀ env' ∈ env :: outer, env'.scope.kind ≠ .module ∧ ∃ L f m, env'.frame = some L ∧ (L, Cell.fr f m) ∈ ((e, .pr fun o => o.cls = .ref C ∧ ∃ fs : Array Value, o.data = .fields fs ∧ 1 < fs.size ∧ fs[2]? = some .none) :: φ) := fun e' he => let ⟨a, L, f, m, b, c⟩ := hfm e' he; ⟨a, L, f, m, b, .tail _ c⟩
  refine wpAny_bind (wpAny_frameOf_fun hfr (S.funFrames hfm') hf fun h₁ hs₁ => ?_)
  have S₁ := S.slots (tk := s.toks) hs₁ fun b hb => by
    obtain ⟨e', he, hb'⟩ := List.mem_filterMap.mp hb
    obtain ⟨_, L', f', m', h1, h2⟩ := hfm' e' he
    rw [h1] at hb'; cases hb'
    exact ⟨f', m', h2⟩
  refine wpAny_bind (wpAny_entryPlaceOf fun pl hpl => ?_)
  unfold EntryCells.newEntry newFields
  refine wpAny_bind (wpAny_newObj_type ?_ (hpl.sizeOk5 _ _ _ _ _))
  have S₂ := S₁.allocH (c := tbC (rawInt L)) (h' := h₁.push { cls := .type "traceback", dict := none, data := .fields ([head, .ref L, .none, rawInt L, .none] ++ (if pl.isEmpty then List.replicate 6 Value.none else pl)).toArray }) (tk := s.toks) (fun b o e => Heap.get?_push_of_some _ e)
    ⟨_, Heap.get?_push_size _ rfl, _, rfl, by first | (simp; done) | (rcases hpl with rfl | ⟨_, _, _, _, _, _, _, rfl⟩ <;> simp)⟩
  obtain ⟨oe, hoe, hc, vs, hd, hsz, h2⟩ := (S₂.ph _ (.tail _ (.head _))).1
  refine wpAny_setField hoe hd hsz ?_
  have S₃ := S₂.swap.alter (c' := excT C h₁.objs.size) (h' := (h₁.push { cls := .type "traceback", dict := none, data := .fields ([head, .ref L, .none, rawInt L, .none] ++ (if pl.isEmpty then List.replicate 6 Value.none else pl)).toArray }).update e (Obj.mapFields (·.setIfInBounds 1 (Value.ref h₁.objs.size)))) (tk := s.toks)
    (fun b o hb q => (Heap.get?_update_other _ _ (Ne.symm hb)).trans q)
    ⟨_, Heap.get?_update_self _ hoe (Obj.isFreed_of_fields (setF_data hd)), (Obj.cls_mapFields _ _).trans hc, _, setF_data hd, by simp [hsz], by rw [Array.getElem?_setIfInBounds_ne (by decide)]; exact h2⟩
  exact q _ _ S₃.swap
theorem note_first (hfr : A.frames = some (env :: outer)) (F : FrOk A φ) (hf : env.frame = some L) (S : St B ((e, excN C) :: φ) σ s) (q : ∀ T s', St B ((T, tbC (rawInt L)) :: (e, excT C T) :: φ) σ s' → Q () s') :
    wpAny (M0 B.w) A (noteFrame (.ref e) env) Q E s := by
  obtain ⟨oe, hoe, hc, fs, hd, h1, h2⟩ := (S.ph _ (.head _)).1
  unfold noteFrame
  simp only [hf]
  refine wpAny_bind (wpAny_field hoe hd h1 ?_)
  rw [if_neg (by decide)]
  refine entry_T (fs := fs) (o := oe) hfr F hf ?_ q
  obtain ⟨a, b, c, d, f, g⟩ := S
  refine ⟨a, b, c, d, fun p hp => ?_, g⟩
  rcases List.mem_cons.mp hp with rfl | hp
  · exact ⟨⟨oe, hoe, hc, fs, hd, (Array.getElem?_eq_some_iff.mp h1).1, h2⟩, (f _ (.head _)).2⟩
  · exact f p (.tail _ hp)
theorem note_next {T : Addr} (hfr : A.frames = some (env :: outer)) (F : FrOk A φ) (hf : env.frame = some L) (S : St B ((T, tbC .none) :: (e, excT C T) :: φ) σ s) (q : ∀ T s', St B ((T, tbC (rawInt L)) :: (e, excT C T) :: φ) σ s' → Q () s') :
    wpAny (M0 B.w) A (noteFrame (.ref e) env) Q E s := by
  obtain ⟨oe, hoe, hc, fs, hd, h1, h2⟩ := (S.ph _ (.tail _ (.head _))).1
  obtain ⟨oT, hoT, ts, hdT, h3⟩ := (S.ph _ (.head _)).1
  unfold noteFrame
  simp only [hf]
  refine wpAny_bind (wpAny_field hoe hd h1 ?_)
  rw [if_pos (show (Value.ref T != Value.none) = true from by simp)]
  refine wpAny_bind (wpAny_field hoT hdT h3 ?_)
  rw [if_neg (show ¬ ((Value.none == rawInt L) = true) from by simp [rawInt])]
  refine wpAny_bind (wpAny_setField hoT hdT (Array.getElem?_eq_some_iff.mp h3).1 ?_)
  have S₁ := S.lose (h' := s.heap.update T (Obj.mapFields (·.setIfInBounds 3 Value.none))) (tk := s.toks) (fun b o hb q => (Heap.get?_update_other _ _ (Ne.symm hb)).trans q)
  refine entry_T (fs := fs) (o := oe) hfr F hf ?_ q
  obtain ⟨oe, hoe, hc, fs, hd, h1, h2⟩ := (S₁.ph _ (.head _)).1
  obtain ⟨a, b, c, d, f, g⟩ := S₁
  refine ⟨a, b, c, d, fun p hp => ?_, g⟩
  rcases List.mem_cons.mp hp with rfl | hp
  · exact ⟨⟨oe, hoe, hc, fs, hd, (Array.getElem?_eq_some_iff.mp h1).1, h2⟩, (f _ (.head _)).2⟩
  · exact f p (.tail _ hp)
theorem flight_none {T : Addr} {v : Value} (S : St B ((T, tbC v) :: (e, excT C T) :: φ) σ s) (q : ∀ s', St B ((T, tbC .none) :: (e, excT C T) :: φ) σ s' → Q () s') : wpAny (M0 B.w) A (setFlight (.ref e) none) Q E s := by
  obtain ⟨oe, hoe, hc, fs, hd, h1, h2⟩ := (S.ph _ (.tail _ (.head _))).1
  obtain ⟨oT, hoT, ts, hdT, h3⟩ := (S.ph _ (.head _)).1
  have hz := (Array.getElem?_eq_some_iff.mp h3).1
  unfold setFlight
  refine wpAny_bind (wpAny_field hoe hd h1 ?_)
  rw [if_pos (show (Value.ref T != Value.none) = true from by simp)]
  refine wpAny_setField hoT hdT hz (q _ ?_)
  exact S.alter (c' := tbC .none) (h' := s.heap.update T (Obj.mapFields (·.setIfInBounds 3 ((none : Option Addr).elim Value.none fun f => rawInt f)))) (tk := s.toks) (fun b o hb q => (Heap.get?_update_other _ _ (Ne.symm hb)).trans q)
    ⟨_, Heap.get?_update_self _ hoT (Obj.isFreed_of_fields (setF_data hdT)), _, setF_data hdT, by simp [hz]⟩
/-- an exception of class C flies -/
noncomputable def Exc (B : Bd) (φ : Phi) (σ : Sig) (C : Addr) (v : Value) (s : Shared) : Prop := ∃ e, v = .ref e ∧ (St B ((e, excN C) :: φ) σ s ∨ ∃ T, St B ((T, tbC .none) :: (e, excT C T) :: φ) σ s)
theorem leave_T {f : Fm} {m : LM} {v : Value} (hfr : A.frames = some (f.env :: outer)) (F : FrOk A ((f.env.locals, .fr f m) :: φ)) (hf : f.env.frame = some L) (X : Exc B ((f.env.locals, .fr f m) :: φ) σ C v s) (q : ∀ s', Exc B φ σ C v s' → Q () s') :
    wpAny (M0 B.w) A («leaving» f.env v) Q E s := by
  obtain ⟨e, rfl, S⟩ := X
  have fin : ∀ T s', St B ((T, tbC (rawInt L)) :: (e, excT C T) :: (f.env.locals, .fr f m) :: φ) σ s' → wpAny (M0 B.w) A (setFlight (.ref e) none) Q E s' := fun T s' S' =>
    flight_none S' fun s'' S'' => q s'' ⟨e, rfl, .inr ⟨T, S''.perm (List.Perm.cons _ (List.Perm.swap _ _ _)) |>.cut2⟩⟩
  unfold «leaving»
  rcases S with S | ⟨T, S⟩
  · exact wpAny_bind (note_first hfr F hf S fun T s' S' => fin T s' S')
  · exact wpAny_bind (note_next hfr F hf S fun T s' S' => fin T s' S')
end
/-- what a frame does with a raise of class C -/
theorem ELeave.exc {B : Bd} {φ : Phi} {A : Around} {σ : Sig} {s : Shared} {E : Value → Shared → Prop} {C : Addr} {f : Fm} {m m' : LM} {v : Value} (F0 : FrOk A φ) (F : FrOk (A.deeper f.env) ((f.env.locals, .fr f m) :: φ)) (X : Exc B ((f.env.locals, .fr f m') :: φ) σ C v s)
    (k : ∀ s', Exc B φ σ C v s' → E v s') : ELeave B.w (A.deeper f.env) f.env E v s := by
  obtain ⟨_, l, hl, _⟩ := F0
  have hfr : (A.deeper f.env).frames = some (f.env :: l) := by show A.frames.map (f.env :: ·) = _; rw [hl]; rfl
  obtain ⟨_, l', hl', hm⟩ := id F
  rw [hfr] at hl'; cases hl'
  obtain ⟨_, L, _, _, hf, _⟩ := hm f.env (.head _)
  exact leave_T hfr F.turn hf X fun s' X' => k s' X'
theorem Cl.withF {B : Bd} {φ : Phi} {A : Around} {g : Value} {vs : List Val} {kw : List (Str × Val)} {σ : Sig} {Q : Val → Sig → Prop} {E : Value → Shared → Prop} (h : FrOk A φ → Cl B φ A g vs kw σ Q E) : Cl B φ A g vs kw σ Q E := fun us ks hu hk s F S => h F us ks hu hk s F S
theorem ClN.withF {B : Bd} {φ : Phi} {A : Around} {g : Value} {vs : List Val} {kw : List (Str × Val)} {σ : Sig} {Q : Val → Sig → Prop} {E : Value → Shared → Prop} (h : FrOk A φ → ClN B φ A g vs kw σ Q E) : ClN B φ A g vs kw σ Q E := fun us ks hu hk s F S => h F us ks hu hk s F S
theorem Es.withF {B : Bd} {φ : Phi} {A : Around} {f : Fm} {m : LM} {st : List Stmt} {σ : Sig} {Q : Fl → LM → Sig → Prop} {E : Value → Shared → Prop} (h : FrOk A ((f.env.locals, .fr f m) :: φ) → Es B φ A f m st σ Q E) : Es B φ A f m st σ Q E := fun s F S => h F s F S
theorem EsN.withF {B : Bd} {φ : Phi} {A : Around} {f : Fm} {m : LM} {st : List Stmt} {σ : Sig} {Q : Fl → LM → Sig → Prop} {E : Value → Shared → Prop} (h : FrOk A ((f.env.locals, .fr f m) :: φ) → EsN B φ A f m st σ Q E) : EsN B φ A f m st σ Q E := fun s F S => h F s F S
end Mine
end
section
open PySem PySem.W PySem.Calls PyProof.Rows
set_option maxRecDepth 100000
set_option Elab.async false
set_option linter.unusedVariables false
set_option maxHeartbeats 1000000
namespace Mine
section
variable {B : Bd} {φ : Phi} {A : Around} {f : Fm} {m : LM} {σ : Sig} {E : Value → Shared → Prop} {Q : Fl → LM → Sig → Prop}
theorem St.low {s : Shared} (S : St B φ σ s) {a : Addr} (h : a ≤ 3) : ∃ o, s.heap.get? a = some o := by
  have : a = 0 ∨ a = 1 ∨ a = 2 ∨ a = 3 := by unfold Addr at *; omega
  rcases this with rfl | rfl | rfl | rfl
  · exact ⟨_, S.kin 0 _ rfl⟩
  · exact ⟨_, S.kin 1 _ rfl⟩
  · exact ⟨_, S.kin 2 _ rfl⟩
  · exact ⟨_, S.kin 3 _ rfl⟩
/-- what is not in the heap is not ours -/
theorem St.absent {s : Shared} (S : St B φ σ s) {a : Addr} (h : s.heap.get? a = none) : σ a = none ∧ (∀ p ∈ φ, p.1 ≠ a) ∧ B.H.get? a = none ∧ 3 < a := by
  refine ⟨?_, fun p hp e => ?_, ?_, ?_⟩
  · cases q : σ a with
    | none => rfl
    | some c => obtain ⟨o, ho⟩ := (S.sg _ _ q).1.ex; rw [h] at ho; cases ho
  · obtain ⟨o, ho⟩ := (S.ph p hp).1.ex; rw [e, h] at ho; cases ho
  · cases q : B.H.get? a with
    | none => rfl
    | some o => have := S.keep _ _ q; rw [h] at this; cases this
  · refine Nat.lt_of_not_le fun l => ?_
    obtain ⟨o, ho⟩ := S.low l
    rw [h] at ho; cases ho
/-- raise X(..), X a class of the text -/
theorem Ex.raiseOwn {x : Str} {C : Addr} {np cpos pos : Pos} {e₀ : Expr} {rest : List Expr} {bmB : List Value} {Bn newId initId : String} (hh : A.handled = none) (hx : (x, .ref C) ∈ f.globs) (hn : nsIn (K0 B.w) mainGlobals x = some (some (.ref C))) (hC : excIn (K0 B.w) C bmB newId = true)
    (FB : ExcBaseFacts Bn newId initId bmB)
    (h : El B φ A f m cpos (e₀ :: rest) σ (fun vs σ₁ => vs.length ≤ 1000 ∧ ∀ v s', Exc B ((f.env.locals, .fr f m) :: φ) σ₁ C v s' → E v s') E)
    (he : starEach (e₀ :: rest) f.env = (false, eval e₀ f.env) :: starEach rest f.env := by rfl) (hplain : (backTo cpos (starEach rest f.env)).any (·.1) = false := by rfl) :
    Ex B φ A f m (.Raise (some (.Call (.Name x np) (e₀ :: rest) [] cpos)) none pos) σ Q E := fun s F S => by
  obtain ⟨loose, mean, mg, mb, TT⟩ := S.bs.top
  obtain ⟨tl, N, nm, q, bs, hdct, sn, sub, ab, col, dd, k0, k1, k2, k3, k5, mN, hCo, hN, hni, T⟩ := (own_of_in S.bs.K (topRead_of TT) hn hC).obj
  refine wpAny_Raise_call_subT (C := C) (nm := nm) (q := q) (N := N) (bs := bs) (bm := tl) (hdct := hdct) (sn := sn) (sub := sub) (ab := ab) (col := col) (dd := dd) (k0 := k0) (k1 := k1) (k2 := k2) (k3 := k3) (k5 := k5)
    FB (mN := mN) (T.hasType FB.hasBase) hh (by rw [he]; show (false || (backTo cpos (starEach rest f.env)).any (·.1)) = false; rw [hplain]; rfl) hni ?_
  refine wpAny_mono (Ev.glob (B := B) (φ := φ) (A := A) (f := f) (m := m) (σ := σ) (E := E) (pos := np) (Q := fun v σ' => v = .ref C ∧ σ' = σ) hx ⟨rfl, rfl⟩ s F S) (fun v s₁ ⟨σ₁, S₁, e, e'⟩ => ?_) fun _ _ e => e
  subst e'
  refine ⟨er_ref e, ?_⟩
  have he' := h s₁ F S₁
  rw [he] at he' ⊢
  refine Calls.evalArgs_plain (wpAny_mono he' (fun vs s₂ ⟨σ₂, S₂, hl, hk⟩ => ⟨rfl, lenOk_of (by simpa using hl), S₂.keep _ _ hCo, hN.keeps S₂.keep, T.keeps S₂.keep, fun h' e hm => hk _ _ ⟨e, rfl, .inl ?_⟩⟩) fun _ _ y => y)
  obtain ⟨f1, f2, f3, f4⟩ := S₂.absent hm.new
  obtain ⟨t, ht, _, _⟩ := hm.there
  exact (S₂.ext (tk := s₂.toks) hm.keeps).addH ⟨_, ht, rfl, _, rfl, rfl, rfl⟩ f1 f2 f3 f4
theorem FrOk.held {m' : LM} {e : Addr} {P : Obj → Prop} (F : FrOk A ((f.env.locals, .fr f m) :: φ)) (hP : ∀ o, P o → ∃ fs : Array Value, o.data = .fields fs ∧ fs[2]? = some .none) :
    FrOk (A.mark (some (.ref e))) ((f.env.locals, .fr f m') :: (e, .pr P) :: φ) := by
  obtain ⟨_, l, hl, hm⟩ := F
  refine ⟨.inr ⟨e, P, rfl, .tail _ (.head _), hP⟩, l, hl, fun env he => ?_⟩
  obtain ⟨a, L, g, n, b, c⟩ := hm env he
  refine ⟨a, ?_⟩
  rcases List.mem_cons.mp c with c | c
  · obtain ⟨h1, _⟩ := Prod.mk.inj c
    exact ⟨L, f, m', b, by rw [h1]; exact .head _⟩
  · exact ⟨L, g, n, b, .tail _ (.tail _ c)⟩
/-- what a handler for the class C does with a raise -/
theorem handle_T {x : Str} {C : Addr} {np hpos : Pos} {b₀ : Stmt} {suite : List Stmt} {rest : List ExceptHandler} {bmB : List Value} {newId : String} {m' : LM} {v : Value} {s : Shared} (hx : (x, .ref C) ∈ f.globs)
    (hn : nsIn (K0 B.w) mainGlobals x = some (some (.ref C))) (hC : excIn (K0 B.w) C bmB newId = true) (hbase : bmB.contains (.type "BaseException") = true) (F : FrOk A ((f.env.locals, .fr f m) :: φ)) (X : Exc B ((f.env.locals, .fr f m') :: φ) σ C v s)
    (hs : ∀ e P, (∀ o, P o → ∃ fs : Array Value, o.data = .fields fs ∧ fs[2]? = some .none) → Es B ((e, .pr P) :: φ) (A.mark (some (.ref e))) f m' (b₀ :: suite) σ Q (fun _ _ => False)) :
    (∃ outer, A.frames = some (f.env :: outer)) →
    wpAny (M0 B.w) A (noteFrame v f.env) (fun _ s₂ => wpAny (M0 B.w) A (setFlight v none) (fun _ s₃ => wpAny (M0 B.w) A (handleBy v f.env (.ExceptHandler (some (.Name x np)) none (b₀ :: suite) hpos :: rest))
      (fun r s' => ∃ m'' σ', St B ((f.env.locals, .fr f m'') :: φ) σ' s' ∧ Q (erF r) m'' σ') E s₃) E s₂) E s := by
  rintro ⟨outer, hfr⟩
  obtain ⟨_, l', hl', hm⟩ := id F
  rw [hfr] at hl'; cases hl'
  obtain ⟨_, L, _, _, hf, _⟩ := hm f.env (.head _)
  obtain ⟨e, rfl, S⟩ := X
  have go : ∀ T s', St B ((T, tbC (rawInt L)) :: (e, excT C T) :: (f.env.locals, .fr f m') :: φ) σ s' → wpAny (M0 B.w) A (setFlight (.ref e) none) (fun _ s₃ => wpAny (M0 B.w) A (handleBy (.ref e) f.env (.ExceptHandler (some (.Name x np)) none (b₀ :: suite) hpos :: rest))
      (fun r s' => ∃ m'' σ', St B ((f.env.locals, .fr f m'') :: φ) σ' s' ∧ Q (erF r) m'' σ') E s₃) E s' := fun T s' S' => by
    refine flight_none S' fun s₃ S₃ => ?_
    refine wpAny_handleBy_cons (codeAny_handlers_test ?_) (by intro q; cases q)
    have S₄ : St B ((f.env.locals, .fr f m') :: (e, excT C T) :: (T, tbC .none) :: φ) σ s₃ := S₃.perm (((List.Perm.swap _ _ _).trans (List.Perm.cons _ (List.Perm.swap _ _ _))).trans (List.Perm.swap _ _ _))
    have F₄ : FrOk (A.mark (some (.ref e))) ((f.env.locals, .fr f m') :: (e, excT C T) :: (T, tbC .none) :: φ) := by
      have := FrOk.held (m' := m') (e := e) (P := fun o => o.cls = .ref C ∧ ∃ fs : Array Value, o.data = .fields fs ∧ fs[1]? = some (.ref T) ∧ fs[2]? = some .none) F fun o ⟨_, fs, h1, _, h2⟩ => ⟨fs, h1, h2⟩
      exact this.perm fun p hp => by
        rcases List.mem_cons.mp hp with rfl | hp
        · exact .head _
        · rcases List.mem_cons.mp hp with rfl | hp
          · exact .tail _ (.head _)
          · exact .tail _ (.tail _ (.tail _ hp))
    refine wpAny_mono (Ev.glob (B := B) (φ := (e, excT C T) :: (T, tbC .none) :: φ) (A := A.mark (some (.ref e))) (f := f) (m := m') (σ := σ) (pos := np) (Q := fun v σ' => v = .ref C ∧ σ' = σ) hx ⟨rfl, rfl⟩ s₃ F₄ S₄) (fun c s₅ ⟨σ₅, S₅, ec, e5⟩ => ?_) fun _ _ e => e
    subst e5
    rw [er_ref ec]
    obtain ⟨loose, mean, mg, mb, TT⟩ := S₅.bs.top
    obtain ⟨tl, N, nm, q, bs, hdct, sn, sub, ab, col, dd, k0, k1, k2, k3, k5, mN, hCo, hN, hni, TL⟩ := (own_of_in S₅.bs.K (topRead_of TT) hn hC).obj
    obtain ⟨oe, hoe, hcls, fs, hd, h1, h2⟩ := (S₅.ph _ (.tail _ (.head _))).1
    refine wpAny_excMatches_sub_self (S₅.keep _ _ hCo) hoe hcls (TL.hasType hbase) ?_
    refine codeAny_handlers_suite ?_
    have S₆ : St B ((T, tbC .none) :: (e, excT C T) :: (f.env.locals, .fr f m') :: φ) σ₅ s₅ := S₅.perm ((List.Perm.swap _ _ _).trans (((List.Perm.cons _ (List.Perm.swap _ _ _)).trans (List.Perm.swap _ _ _))))
    refine flight_none S₆ fun s₇ S₇ => ?_
    have S₈ : St B ((f.env.locals, .fr f m') :: (e, excT C T) :: φ) σ₅ s₇ := S₇.drop.swap
    have F₈ := FrOk.held (m' := m') (e := e) (P := fun o => o.cls = .ref C ∧ ∃ fs : Array Value, o.data = .fields fs ∧ fs[1]? = some (.ref T) ∧ fs[2]? = some .none) F fun o ⟨_, fs, h1, _, h2⟩ => ⟨fs, h1, h2⟩
    refine wpAny_mono (hs e _ (fun o ⟨_, fs, h1, _, h2⟩ => ⟨fs, h1, h2⟩) s₇ F₈ S₈) (fun r s₉ ⟨m'', σ', S₉, q⟩ => ?_) fun _ _ z => z.elim
    exact ⟨m'', σ', S₉.cut2, q⟩
  rcases S with S | ⟨T, S⟩
  · exact note_first hfr F.turn hf S go
  · exact note_next hfr F.turn hf S go
variable {x : Str} {C : Addr} {np hpos pos : Pos} {b₀ : Stmt} {suite body : List Stmt} {bmB : List Value} {newId : String} {H : LM → Sig → Prop}
theorem Ex.tryExc (hx : (x, .ref C) ∈ f.globs) (hn : nsIn (K0 B.w) mainGlobals x = some (some (.ref C))) (hC : excIn (K0 B.w) C bmB newId = true) (hbase : bmB.contains (.type "BaseException") = true) (hfr : ∃ outer, A.frames = some (f.env :: outer))
    (h : Es B φ A f m body σ (fun r m' σ' => match r with | .next => Q .next m' σ' | r => Q r m' σ') (fun v s' => ∃ m' σ', Exc B ((f.env.locals, .fr f m') :: φ) σ' C v s' ∧ H m' σ'))
    (hs : ∀ m' σ' e P, (∀ o, P o → ∃ fs : Array Value, o.data = .fields fs ∧ fs[2]? = some .none) → H m' σ' → Es B ((e, .pr P) :: φ) (A.mark (some (.ref e))) f m' (b₀ :: suite) σ' Q (fun _ _ => False)) :
    Ex B φ A f m (.Try body [.ExceptHandler (some (.Name x np)) none (b₀ :: suite) hpos] [] [] pos) σ Q E := fun s F S =>
  wpAny_Try_except (wpAny_mono (h s F S) (fun r s₁ ⟨m₁, σ₁, S₁, h₁⟩ => by
    cases r with
    | next => exact wpAny_execs_nil ⟨m₁, σ₁, S₁, h₁⟩
    | brk => exact ⟨m₁, σ₁, S₁, h₁⟩
    | cont => exact ⟨m₁, σ₁, S₁, h₁⟩
    | ret v => exact ⟨m₁, σ₁, S₁, h₁⟩) fun v s' ⟨m', σ', X, hH⟩ => handle_T hx hn hC hbase F X (fun e P hP => hs m' σ' e P hP hH) hfr)
theorem ExN.tryExc (hx : (x, .ref C) ∈ f.globs) (hn : nsIn (K0 B.w) mainGlobals x = some (some (.ref C))) (hC : excIn (K0 B.w) C bmB newId = true) (hbase : bmB.contains (.type "BaseException") = true) (hfr : ∃ outer, A.frames = some (f.env :: outer))
    (h : EsN B φ A f m body σ (fun r m' σ' => match r with | .next => Q .next m' σ' | r => Q r m' σ') (fun v s' => ∃ m' σ', Exc B ((f.env.locals, .fr f m') :: φ) σ' C v s' ∧ H m' σ'))
    (hs : ∀ m' σ' e P, (∀ o, P o → ∃ fs : Array Value, o.data = .fields fs ∧ fs[2]? = some .none) → H m' σ' → Es B ((e, .pr P) :: φ) (A.mark (some (.ref e))) f m' (b₀ :: suite) σ' Q (fun _ _ => False)) :
    ExN B φ A f m (.Try body [.ExceptHandler (some (.Name x np)) none (b₀ :: suite) hpos] [] [] pos) σ Q E := fun s F S =>
  tryN (wpN.mono (h s F S) (fun r s₁ ⟨m₁, σ₁, S₁, h₁⟩ => by
    cases r with
    | next => exact wpAny_execs_nil ⟨m₁, σ₁, S₁, h₁⟩
    | brk => exact ⟨m₁, σ₁, S₁, h₁⟩
    | cont => exact ⟨m₁, σ₁, S₁, h₁⟩
    | ret v => exact ⟨m₁, σ₁, S₁, h₁⟩) fun v s' ⟨m', σ', X, hH⟩ => handle_T hx hn hC hbase F X (fun e P hP => hs m' σ' e P hP hH) hfr)
end
end Mine
end
section
open PySem PySem.W PySem.Calls PyProof.Rows
set_option maxRecDepth 100000
set_option Elab.async false
set_option maxHeartbeats 4000000
set_option linter.unusedVariables false
namespace Mine
-- our steps, by key
local macro_rules | `(tactic| walk_at "mem") => `(tactic| first | (with_reducible exact List.mem_cons_self) | ((with_reducible refine List.mem_cons_of_mem _ ?_); walk_at "mem"))
local macro_rules | `(tactic| walk_at "sto") => `(tactic| first | (with_reducible exact Sto.head) | (with_reducible apply Sto.tail; walk_at "sto"))
local macro_rules | `(tactic| walk_at "std") => `(tactic| first | (with_reducible exact Std.head) | (with_reducible apply Std.tail; walk_at "std"))
local macro_rules | `(tactic| walk_at "ne") => `(tactic| first | assumption | (refine Ne.symm ?_; assumption) | exact Sig.ne (by assumption) (by assumption) | exact (Sig.ne (by assumption) (by assumption)).symm | omega)
local macro_rules | `(tactic| walk_at "look") => `(tactic| first | assumption | exact Sig.upd_self | ((with_reducible refine (Sig.upd_ne ?_).trans ?_); (focus walk_at "ne"); walk_at "look"))
local macro_rules | `(tactic| walk_at "aok") => `(tactic| exact AOk.le (by assumption) (by decide))
local macro_rules | `(tactic| walk_at "stok") => `(tactic| refine ⟨_, by walk_at "sto", ?_⟩)
local macro_rules | `(tactic| walk_at "nokeys") => `(tactic| (simp only [List.map_cons, List.map_nil, List.map_append, List.cons_append, List.nil_append]; decide))
local macro_rules | `(tactic| walk_at "gv") => `(tactic| first | exact gv_range | exact gv_law_take | exact gv_NOT_FOUND | exact gv_len | exact gv_min | exact gv_max | exact gv_sum | exact gv_abs | exact gv_list | exact gv_iter | exact gv_next | exact gv_float | exact gv_str | exact gv_DiGraph | exact gv_edmonds_karp_core | exact gv_edmonds_karp_impl | exact gv_NetworkXError | exact gv_NetworkXUnbounded | exact gv_law_draw | exact gv_law_least | exact gv_law_network | exact gv_law_read | exact gv_law_added | exact gv_law_road | exact gv_law_refused)
local macro_rules | `(tactic| walk_at "gl") => `(tactic| first | exact List.forall_mem_nil _ | (refine List.forall_mem_cons.mpr ⟨?_, ?_⟩; (focus walk_at "gv"); walk_at "gl"))
section
variable {B : Bd} {φ : Phi} {A : Around} {σ : Sig} {E : Value → Shared → Prop}
theorem Cm.isSelf {Q : Val → Sig → Prop} {a : Addr} (q : Q (.bool true) σ) : Cm B φ A .Is (.ref a) (.ref a) σ Q E := fun u v hu hv s F S => by
  rw [er_ref hu, er_ref hv]; exact wpAny_is_ref_self ⟨σ, S, q⟩
/-- a property's function: the attribute behind it -/
theorem prop_nodes {x d v : Addr} {kvs : List (Str × Val)} {out : Bool} {Q : Val → Sig → Prop} (hA : AOk A 1) (hx : σ x = some (.inst 676 d)) (hd : σ d = some (.dD kvs out)) (hv : (Str.ofString "_node", Val.ref v) ∈ kvs) (q : Q (.ref v) σ) : Cl B φ A (.ref 419) [.ref x] [] σ Q E := by
  refine Cl.def0 (gl := []) (ps := [Str.ofString "self"]) (rest := []) hA rfl rfl (by kernel_rfl) rfl (hb1 fun _ => rfl) rfl (by kernel_rfl) (by intro _ h; cases h) ?_
  intro env A' E' hL hA' eA eE hE
  refine Es.cons (Ex.ret (Ev.attr (Ev.loc (by show _ ∈ [_]; walk_at "mem") (Ga.own hx hd hv (by kernel_rfl) (by kernel_rfl) ⟨_, rfl⟩ q))))
theorem prop_succ {x d v : Addr} {kvs : List (Str × Val)} {out : Bool} {Q : Val → Sig → Prop} (hA : AOk A 1) (hx : σ x = some (.inst 676 d)) (hd : σ d = some (.dD kvs out)) (hv : (Str.ofString "_succ", Val.ref v) ∈ kvs) (q : Q (.ref v) σ) : Cl B φ A (.ref 566) [.ref x] [] σ Q E := by
  refine Cl.def0 (gl := []) (ps := [Str.ofString "self"]) (rest := []) hA rfl rfl (by kernel_rfl) rfl (hb1 fun _ => rfl) rfl (by kernel_rfl) (by intro _ h; cases h) ?_
  intro env A' E' hL hA' eA eE hE
  refine Es.cons (Ex.ret (Ev.attr (Ev.loc (by show _ ∈ [_]; walk_at "mem") (Ga.own hx hd hv (by kernel_rfl) (by kernel_rfl) ⟨_, rfl⟩ q))))
theorem prop_pred {x d v : Addr} {kvs : List (Str × Val)} {out : Bool} {Q : Val → Sig → Prop} (hA : AOk A 1) (hx : σ x = some (.inst 676 d)) (hd : σ d = some (.dD kvs out)) (hv : (Str.ofString "_pred", Val.ref v) ∈ kvs) (q : Q (.ref v) σ) : Cl B φ A (.ref 576) [.ref x] [] σ Q E := by
  refine Cl.def0 (gl := []) (ps := [Str.ofString "self"]) (rest := []) hA rfl rfl (by kernel_rfl) rfl (hb1 fun _ => rfl) rfl (by kernel_rfl) (by intro _ h; cases h) ?_
  intro env A' E' hL hA' eA eE hE
  refine Es.cons (Ex.ret (Ev.attr (Ev.loc (by show _ ∈ [_]; walk_at "mem") (Ga.own hx hd hv (by kernel_rfl) (by kernel_rfl) ⟨_, rfl⟩ q))))
theorem prop_adj {x d v : Addr} {kvs : List (Str × Val)} {out : Bool} {Q : Val → Sig → Prop} (hA : AOk A 1) (hx : σ x = some (.inst 676 d)) (hd : σ d = some (.dD kvs out)) (hv : (Str.ofString "_adj", Val.ref v) ∈ kvs) (q : Q (.ref v) σ) : Cl B φ A (.ref 360) [.ref x] [] σ Q E := by
  refine Cl.def0 (gl := []) (ps := [Str.ofString "self"]) (rest := []) hA rfl rfl (by kernel_rfl) rfl (hb1 fun _ => rfl) rfl (by kernel_rfl) (by intro _ h; cases h) ?_
  intro env A' E' hL hA' eA eE hE
  refine Es.cons (Ex.ret (Ev.attr (Ev.loc (by show _ ∈ [_]; walk_at "mem") (Ga.own hx hd hv (by kernel_rfl) (by kernel_rfl) ⟨_, rfl⟩ q))))
/-- what the walk of `__get__` needs of a cached property -/
structure Cached (w : World) (cp fn : Addr) (name src : Str) : Prop where
  own : ∃ dx od sl n t, (K0 w).lookup cp = some ⟨.ref 291, some dx, .plain, sl⟩ ∧ (K0 w).lookup dx = some od ∧ findObj (K0 w) 291 (some od) (Str.ofString "attrname") = some (.value (.str name t)) ∧ findObj (K0 w) 291 (some od) (Str.ofString "func") = some (.value (.ref fn)) ∧ n = name
  kept : keepIn (K0 w) (.ref fn) = true
  fnc : ∀ {B : Bd} {φ : Phi} {A : Around} {σ : Sig} {E : Value → Shared → Prop} {x d v : Addr} {kvs : List (Str × Val)} {out : Bool} {Q : Val → Sig → Prop}, AOk A 1 → σ x = some (.inst 676 d) → σ d = some (.dD kvs out) → (src, Val.ref v) ∈ kvs → Q (.ref v) σ → B.w = w → Cl B φ A (.ref fn) [.ref x] [] σ Q E
theorem cached_nodes {w : World} : Cached w 421 419 (Str.ofString "nodes") (Str.ofString "_node") where
  own := ⟨420, _, _, _, _, rfl, rfl, rfl, rfl, rfl⟩
  kept := by kernel_rfl
  fnc hA hx hd hv q _ := prop_nodes hA hx hd hv q

theorem cached_succ {w : World} : Cached w 568 566 (Str.ofString "succ") (Str.ofString "_succ") where
  own := ⟨567, _, _, _, _, rfl, rfl, rfl, rfl, rfl⟩
  kept := by kernel_rfl
  fnc hA hx hd hv q _ := prop_succ hA hx hd hv q
theorem cached_pred {w : World} : Cached w 578 576 (Str.ofString "pred") (Str.ofString "_pred") where
  own := ⟨577, _, _, _, _, rfl, rfl, rfl, rfl, rfl⟩
  kept := by kernel_rfl
  fnc hA hx hd hv q _ := prop_pred hA hx hd hv q
theorem cached_adj {w : World} : Cached w 362 360 (Str.ofString "adj") (Str.ofString "_adj") where
  own := ⟨361, _, _, _, _, rfl, rfl, rfl, rfl, rfl⟩
  kept := by kernel_rfl
  fnc hA hx hd hv q _ := prop_adj hA hx hd hv q
/-- `cached_property.__get__` -/
local macro_rules | `(tactic| walk_at "get head") => `(tactic| (
  refine Ex.ifs (Bt.cmp (Ev.loc (by walk_at "mem") (Ev.none (Cm.isNone (Tr.bool ⟨fun h => ?_, fun _ => ?_⟩)))))
  · cases h))
local macro_rules | `(tactic| walk_at "get head2") => `(tactic| (
  refine Ex.ifs (Bt.cmp (Ev.attr (Ev.loc (by walk_at "mem") (Ga.kin (by assumption) (by assumption) (by kernel_rfl) (by assumption) rfl (Ev.none (Cm.isNoneF (by intro e; cases e) (Tr.bool (tF ?_)))))))))) 
local macro_rules | `(tactic| walk_at "get tail") => `(tactic| (
  refine Es.cons (Ex.asg (Ev.meth (Ev.loc (by walk_at "mem") (Gm.dGetD Sig.upd_self (El.cons (Ev.attr (Ev.loc (by walk_at "mem") (Ga.kin (by assumption) (by assumption) (by kernel_rfl) (by assumption) rfl ?_))))))))
  refine El.cons (Ev.glob (by walk_at "mem") (El.nil (Ek.nil ⟨Kp.bi, Cl.dGetD Sig.upd_self (by assumption) ?_⟩)))
  walk_at "stok"
  refine Seq.next (Es.cons (Ex.ifs (Bt.cmp (Ev.loc (by walk_at "mem") (Ev.glob (by walk_at "mem") (Cm.isSelf (Tr.bool (tT ?_))))))))
  refine Es.cons (Ex.asg (Ev.meth (Ev.loc (by walk_at "mem") (Gm.kin (by assumption) (by assumption) (by kernel_rfl) (by kernel_rfl) (by assumption) rfl (El.cons (Ev.loc (by walk_at "mem") (El.nil (Ek.nil ⟨Kp.kin (Cached.kept (by assumption)), Cached.fnc (by assumption) (by walk_at "aok") ((Sig.upd_ne (by assumption)).trans (by assumption)) Sig.upd_self (by assumption) ?_ rfl⟩))))))))
  walk_at "stok"
  refine Seq.next (Es.cons (Ex.try (Es.cons (Ex.asgSub (Ev.loc (by walk_at "mem") (Ev.loc (by walk_at "mem") (Ev.attr (Ev.loc (by walk_at "mem") (Ga.kin (by assumption) (by assumption) (by kernel_rfl) (by assumption) rfl (Si.dD Sig.upd_self (by assumption) (by assumption) ?_))))))))))
  refine Seq.next (Es.nil (Seq.next (Es.nil (Seq.next (Es.cons (Ex.ret (Ev.loc (by walk_at "mem") ?_)))))))
  rw [Sig.upd_upd]
  assumption))
theorem get_spec {cp fn x d v : Addr} {name src : Str} {kvs : List (Str × Val)} {Q : Val → Sig → Prop} (C : Cached B.w cp fn name src) (hA : AOk A 3) (hx : σ x = some (.inst 676 d)) (hd : σ d = some (.dD kvs true)) (hv : (src, Val.ref v) ∈ kvs) (hn : name ∉ kvs.map (·.1)) (hz : kvs.length ≤ 900)
    (q : Q (.ref v) (σ.upd d (.dD (kvs ++ [(name, .ref v)]) true))) : Cl B φ A (.ref 281) [.ref cp, .ref x, .ref 676] [] σ Q E := by
  obtain ⟨dx, od, sl, n, t, l1, l2, f1, f2, rfl⟩ := C.own
  have hxd : x ≠ d := by intro e; subst e; rw [hx] at hd; cases hd
  refine Cl.defB (gl := [(Str.ofString "_NOT_FOUND", .ref 252)]) (ps := [Str.ofString "self", Str.ofString "instance", Str.ofString "owner"]) (rest := [Str.ofString "cache", Str.ofString "val"]) (bvs := [.ref cp, .ref x, .ref 676]) hA rfl rfl (by kernel_rfl) rfl ?_ rfl (by kernel_rfl) (by walk_at "gl") ?_
  · intro us ks s hu hk S
    obtain ⟨a, b, c, rfl, ha, hb, hc⟩ := three_arg hu
    rw [no_kw hk]
    exact ⟨[(Str.ofString "self", a), (Str.ofString "instance", b), (Str.ofString "owner", c)], binds_K S.kin rfl rfl rfl rfl rfl, by simp [ha, hb, hc]⟩
  intro env A' E' hA' eA hE
  show Es B φ A' ⟨env, [], _⟩ [(Str.ofString "self", some (.ref cp)), (Str.ofString "instance", some (.ref x)), (Str.ofString "owner", some (.ref 676)), (Str.ofString "cache", none), (Str.ofString "val", none)] _ σ _ E'
  refine Es.cons ?_
  refine Ex.ifs (Bt.cmp (Ev.loc (by walk_at "mem") (Ev.none (Cm.isNoneF (by intro e; cases e) (Tr.bool (tF ?_))))))
  refine Es.nil (Seq.next (Es.cons ?_))
  walk_at "get head2"
  refine Es.nil (Seq.next (Es.cons (Ex.try (Es.cons (Ex.asg (Ev.attr (Ev.loc (by walk_at "mem") (Ga.dict hx hd ?_))))))))
  walk_at "stok"
  refine Seq.next (Es.nil (Seq.next ?_))
  walk_at "get tail"
theorem get_specN {cp fn x d v : Addr} {name src : Str} {kvs : List (Str × Val)} {Q : Val → Sig → Prop} (C : Cached B.w cp fn name src) (hA : AOk A 3) (hx : σ x = some (.inst 676 d)) (hd : σ d = some (.dD kvs false)) (hv : (src, Val.ref v) ∈ kvs) (hn : name ∉ kvs.map (·.1)) (hz : kvs.length ≤ 900)
    (q : Q (.ref v) (σ.upd d (.dD (kvs ++ [(name, .ref v)]) true))) : ClN B φ A (.ref 281) [.ref cp, .ref x, .ref 676] [] σ Q E := by
  obtain ⟨dx, od, sl, n, t, l1, l2, f1, f2, rfl⟩ := C.own
  have hxd : x ≠ d := by intro e; subst e; rw [hx] at hd; cases hd
  refine ClN.defB (gl := [(Str.ofString "_NOT_FOUND", .ref 252)]) (ps := [Str.ofString "self", Str.ofString "instance", Str.ofString "owner"]) (rest := [Str.ofString "cache", Str.ofString "val"]) (bvs := [.ref cp, .ref x, .ref 676]) hA rfl rfl (by kernel_rfl) rfl ?_ rfl (by kernel_rfl) (by walk_at "gl") ?_
  · intro us ks s hu hk S
    obtain ⟨a, b, c, rfl, ha, hb, hc⟩ := three_arg hu
    rw [no_kw hk]
    exact ⟨[(Str.ofString "self", a), (Str.ofString "instance", b), (Str.ofString "owner", c)], binds_K S.kin rfl rfl rfl rfl rfl, by simp [ha, hb, hc]⟩
  intro env A' E' hA' eA hE
  show EsN B φ A' ⟨env, [], _⟩ [(Str.ofString "self", some (.ref cp)), (Str.ofString "instance", some (.ref x)), (Str.ofString "owner", some (.ref 676)), (Str.ofString "cache", none), (Str.ofString "val", none)] _ σ _ E'
  refine EsN.cons (ExN.of ?_)
  walk_at "get head"
  refine Es.nil (SeqN.next (EsN.cons (ExN.of ?_)))
  walk_at "get head2"
  refine Es.nil (SeqN.next (EsN.cons (ExN.try (EsN.cons (ExN.asg (EvN.attr (Ev.loc (by walk_at "mem") (GaN.dict hx hd ?_))))))))
  walk_at "stok"
  refine SeqN.next (EsN.of (Es.nil (SeqN.next (EsN.of ?_))))
  walk_at "get tail"
end
section
variable {B : Bd} {φ : Phi} {A : Around} {f : Fm} {m : LM} {σ : Sig} {E : Value → Shared → Prop}
structure CachedAt (w : World) (cp : Addr) (name : Str) : Prop where
  plain : plainGet (K0 w) 676 name = true
  first : ownFirst (K0 w) 676 name = true
  find : findIn (K0 w) (.ref 676) name = some (some (.ref cp))
  get : specialIn (K0 w) (.ref cp) "__get__" = some (some (.ref 281))
  takes : takesIn (K0 w) (.ref cp) = some false
  copied : copiedNames.contains name = false
theorem hasDict676 {w : World} : hasDictIn (K0 w) 676 = true := by kernel_rfl
theorem at_nodes {w : World} : CachedAt w 421 (Str.ofString "nodes") := ⟨by kernel_rfl, by kernel_rfl, by kernel_rfl, by kernel_rfl, by kernel_rfl, by kernel_rfl⟩
theorem at_succ {w : World} : CachedAt w 568 (Str.ofString "succ") := ⟨by kernel_rfl, by kernel_rfl, by kernel_rfl, by kernel_rfl, by kernel_rfl, by kernel_rfl⟩
theorem at_pred {w : World} : CachedAt w 578 (Str.ofString "pred") := ⟨by kernel_rfl, by kernel_rfl, by kernel_rfl, by kernel_rfl, by kernel_rfl, by kernel_rfl⟩
theorem at_adj {w : World} : CachedAt w 362 (Str.ofString "adj") := ⟨by kernel_rfl, by kernel_rfl, by kernel_rfl, by kernel_rfl, by kernel_rfl, by kernel_rfl⟩
theorem GaN.cached {cp fn x d v : Addr} {name src : Str} {kvs : List (Str × Val)} {Q : Val → Sig → Prop} (C : Cached B.w cp fn name src) (D : CachedAt B.w cp name) (hA : AOk A 4) (hx : σ x = some (.inst 676 d)) (hd : σ d = some (.dD kvs false)) (hv : (src, Val.ref v) ∈ kvs)
    (hn : name ∉ kvs.map (·.1)) (hz : kvs.length ≤ 900) (q : Q (.ref v) (σ.upd d (.dD (kvs ++ [(name, .ref v)]) true))) : GaN B φ A (.ref x) name σ Q E :=
  GaN.made hx hd hn D.plain hasDict676 D.find D.get D.takes D.copied fun E us hu => get_specN (Q := fun v σ' => (∃ b, v = .ref b) ∧ Q v σ') C (hA.in1 (by decide)) hx hd hv hn hz ⟨⟨_, rfl⟩, q⟩ us [] hu rfl
theorem Ga.cached {cp fn x d v : Addr} {name src : Str} {kvs : List (Str × Val)} {Q : Val → Sig → Prop} (C : Cached B.w cp fn name src) (D : CachedAt B.w cp name) (hA : AOk A 4) (hx : σ x = some (.inst 676 d)) (hd : σ d = some (.dD kvs true)) (hv : (src, Val.ref v) ∈ kvs)
    (hn : name ∉ kvs.map (·.1)) (hz : kvs.length ≤ 900) (q : Q (.ref v) (σ.upd d (.dD (kvs ++ [(name, .ref v)]) true))) : Ga B φ A (.ref x) name σ Q E :=
  Ga.made hx hd hn D.plain hasDict676 D.find D.get D.takes D.copied fun E us hu => get_spec (Q := fun v σ' => (∃ b, v = .ref b) ∧ Q v σ') C (hA.in1 (by decide)) hx hd hv hn hz ⟨⟨_, rfl⟩, q⟩ us [] hu rfl
/-- R[k] : what the class's `__getitem__` answers -/
theorem getitem_first {x d v l : Addr} {k : Int} {kvs : List (Str × Val)} {tab : List (Int × Val)} {ep : Nat} {Q : Val → Sig → Prop} (hA : AOk A 5) (hx : σ x = some (.inst 676 d)) (hd : σ d = some (.dD kvs true)) (hv : (Str.ofString "_adj", Val.ref v) ∈ kvs)
    (hn : Str.ofString "adj" ∉ kvs.map (·.1)) (hz : kvs.length ≤ 900) (ht : σ v = some (.dI tab ep)) (hk : (k, Val.ref l) ∈ tab) (q : Q (.ref l) (σ.upd d (.dD (kvs ++ [(Str.ofString "adj", .ref v)]) true))) : Cl B φ A (.ref 391) [.ref x, .int k] [] σ Q E := by
  have hvd : v ≠ d := by intro e; subst e; rw [hd] at ht; cases ht
  refine Cl.def0 (gl := []) (ps := [Str.ofString "self", Str.ofString "n"]) (rest := []) hA rfl rfl (by kernel_rfl) rfl (hb2 fun _ _ => rfl) rfl (by kernel_rfl) (by intro _ h; cases h) ?_
  intro env A' E' hL hA' eA eE hE
  show Es B φ A' ⟨env, [], _⟩ [(Str.ofString "self", some (.ref x)), (Str.ofString "n", some (.int k))] _ σ _ E'
  refine Es.cons (Ex.ret (Ev.sub (Ev.attr (Ev.loc (by walk_at "mem") (Ga.cached cached_adj at_adj (by walk_at "aok") hx hd hv hn hz (Ev.loc (by walk_at "mem") ?_))))))
  exact Su.dI ((Sig.upd_ne hvd).trans ht) hk q
theorem getitem_again {x d v l : Addr} {k : Int} {kvs : List (Str × Val)} {tab : List (Int × Val)} {ep : Nat} {Q : Val → Sig → Prop} (hA : AOk A 5) (hx : σ x = some (.inst 676 d)) (hd : σ d = some (.dD kvs true)) (hv : (Str.ofString "adj", Val.ref v) ∈ kvs)
    (ht : σ v = some (.dI tab ep)) (hk : (k, Val.ref l) ∈ tab) (q : Q (.ref l) σ) : Cl B φ A (.ref 391) [.ref x, .int k] [] σ Q E := by
  refine Cl.def0 (gl := []) (ps := [Str.ofString "self", Str.ofString "n"]) (rest := []) hA rfl rfl (by kernel_rfl) rfl (hb2 fun _ _ => rfl) rfl (by kernel_rfl) (by intro _ h; cases h) ?_
  intro env A' E' hL hA' eA eE hE
  show Es B φ A' ⟨env, [], _⟩ [(Str.ofString "self", some (.ref x)), (Str.ofString "n", some (.int k))] _ σ _ E'
  refine Es.cons (Ex.ret (Ev.sub (Ev.attr (Ev.loc (by walk_at "mem") (Ga.own hx hd hv (at_adj.plain) (at_adj.first) ⟨_, rfl⟩ (Ev.loc (by walk_at "mem") (Su.dI ht hk q)))))))
theorem contains_spec {x d v : Addr} {k : Int} {kvs : List (Str × Val)} {out : Bool} {tab : List (Int × Val)} {ep : Nat} {Q : Val → Sig → Prop} (hA : AOk A 2) (hx : σ x = some (.inst 676 d)) (hd : σ d = some (.dD kvs out)) (hv : (Str.ofString "_node", Val.ref v) ∈ kvs)
    (ht : σ v = some (.dI tab ep)) (q : Q (.bool (decide (k ∈ tab.map (·.1)))) σ) : Cl B φ A (.ref 377) [.ref x, .int k] [] σ Q E := by
  refine Cl.def0 (gl := []) (ps := [Str.ofString "self", Str.ofString "n"]) (rest := []) hA rfl rfl (by kernel_rfl) rfl (hb2 fun _ _ => rfl) rfl (by kernel_rfl) (by intro _ h; cases h) ?_
  intro env A' E' hL hA' eA eE hE
  show Es B φ A' ⟨env, [], _⟩ [(Str.ofString "self", some (.ref x)), (Str.ofString "n", some (.int k))] _ σ _ E'
  refine Es.cons (Ex.try (Es.cons (Ex.ret (Ev.cmp (Ev.loc (by walk_at "mem") (Ev.attr (Ev.loc (by walk_at "mem") (Ga.own hx hd hv (by kernel_rfl) (by kernel_rfl) ⟨_, rfl⟩ (Cm.inI ht q)))))))))
/-- a subscript that the class answers -/
theorem Su.inst {value slice : Expr} {x d g : Addr} {kvs : List (Str × Val)} {out : Bool} {i : Val} {Q : Val → Sig → Prop} (hx : σ x = some (.inst 676 d)) (hd : σ d = some (.dD kvs out)) (h : ∀ E, Cl B φ A.in1 (.ref 391) [.ref x, i] [] σ Q E)
    (hsl : ∀ i, subscripted slice true (.ref x) i = runValue (.builtin "lifetime.subscript" ⟨[.ref x, i], []⟩) := by intro _; with_unfolding_all rfl) : Su B φ A value slice (.ref x) i σ Q E := fun u y hu hy s F S => by
  rw [er_ref hu]
  obtain ⟨es, ep, kv, ho, hk, hp, nd, e, I⟩ := S.inst hx hd
  have X := S.kin
  have hs : findIn (K0 B.w) (.ref 676) "__getitem__" = some (some (.ref 391)) := by kernel_rfl
  have hf : fnIn (K0 B.w) 391 = true := by kernel_rfl
  have hfn : typeIn (K0 B.w) (.ref 391) = some (.type "function") := by kernel_rfl
  have hc := h E [.ref x, y] [] (by rw [← hy]; rfl) rfl s F.in1 S
  generalize hK : K0 B.w = K at *
  unfold fnIn at hf
  split at hf
  · rename_i e
    unfold subscriptTail getitemInPython
    refine wpAny_bind (wpAny_bind (wpAny_bind (I.type.here ((looks_findIn X hs).here ?_))))
    dsimp only
    refine wpAny_bind (wpAny_load (X _ _ e) (wpAny_pure ?_))
    dsimp only
    rw [hsl]
    refine wpAny_bind (wpAny_runValue (codeAny_builtin entry_sub ?_))
    unfold Builtin.«lifetime.subscript»
    refine wpAny_bind (special_fn X I hs hfn (wpAny_mono hc (fun v s' z => ?_) fun _ _ z => z))
    refine wpAny_pure ?_
    show wpAny (M0 B.w) A (letTemporaryGo value (.ref x) v >>= fun _ => pure v) _ E s'
    exact wpAny_bind (wpAny_letTemporaryGo (wpAny_pure z))
  · cases hf
theorem Cm.notInInst {x d v : Addr} {k : Int} {kvs : List (Str × Val)} {out : Bool} {tab : List (Int × Val)} {ep : Nat} {Q : Val → Sig → Prop} (hA : AOk A 2) (hx : σ x = some (.inst 676 d)) (hd : σ d = some (.dD kvs out)) (hv : (Str.ofString "_node", Val.ref v) ∈ kvs)
    (ht : σ v = some (.dI tab ep)) (q : Q (.bool (!decide (k ∈ tab.map (·.1)))) σ) : Cm B φ A .NotIn (.int k) (.ref x) σ Q E := fun u y hu hy s F S => by
  rw [er_ref hy]
  obtain ⟨es, ep', kv, ho, hk, hp, nd, e, I⟩ := S.inst hx hd
  have X := S.kin
  have hs : findIn (K0 B.w) (.ref 676) "__contains__" = some (some (.ref 377)) := by kernel_rfl
  have hf : isFn (K0 B.w) (.ref 377) = true := by kernel_rfl
  have hc := contains_spec (B := B) (φ := φ) (A := A) (σ := σ) (E := E) (Q := fun w τ => w = .bool (decide (k ∈ tab.map (·.1))) ∧ τ = σ) hA hx hd hv ht ⟨rfl, rfl⟩ [.ref x, u] [] (by rw [← hu]; rfl) rfl s F S
  show wpAny _ _ (contains (.ref x) u >>= _) _ _ _
  refine wpAny_bind ?_
  unfold contains
  refine wpAny_holding (wpAny_bind (wpAny_bind (I.type.here ((looks_findIn X hs).here ?_))))
  rw [if_neg (by simp)]
  refine wpAny_bind (unlessNone_K X I hs hf (wpAny_mono hc (fun w s' ⟨τ, S', e1, e2⟩ => ?_) fun _ _ e => e))
  rw [er_bool e1]
  subst e2
  exact wpAny_truthy_bool (wpAny_pure ⟨_, S', q⟩)
end
/-- all cells of σ but those at l are still in σ' -/
noncomputable def Sig.But (σ σ' : Sig) (l : List Addr) : Prop := ∀ a c, σ a = some c → a ∉ l → σ' a = some c
theorem Sig.But.refl {σ : Sig} {l : List Addr} : σ.But σ l := fun _ _ h _ => h
theorem Sig.But.fresh {σ σ' : Sig} {l : List Addr} {a : Addr} {c : Cell} (h : σ.But σ' l) (ha : σ' a = none) : σ.But (σ'.upd a c) l := fun b d e n => by
  have := h b d e n
  exact (Sig.upd_ne (Sig.ne this ha)).trans this
theorem Sig.But.upd {σ σ' : Sig} {l : List Addr} {a : Addr} {c : Cell} (h : σ.But σ' l) (ha : a ∈ l) : σ.But (σ'.upd a c) l := fun b d e n => by
  have := h b d e n
  exact (Sig.upd_ne (fun x => by rw [x] at n; exact n ha)).trans this
theorem Sig.But.new {σ σ' : Sig} {l : List Addr} {a : Addr} {c : Cell} (h : σ.But σ' l) (ha : σ a = none) : σ.But (σ'.upd a c) l := fun b d e n =>
  (Sig.upd_ne (Sig.ne e ha)).trans (h b d e n)
theorem Sig.But.trans {σ τ υ : Sig} {l k : List Addr} (h : σ.But τ l) (h' : τ.But υ k) : σ.But υ (l ++ k) := fun b d e n =>
  h' b d (h b d e fun x => n (List.mem_append_left _ x)) fun x => n (List.mem_append_right _ x)
theorem Sig.But.mono {σ τ : Sig} {l k : List Addr} (h : σ.But τ l) (s : ∀ a ∈ l, a ∈ k) : σ.But τ k := fun b d e n => h b d e fun x => n (s b x)
/-- the statements of a function of the image -/
noncomputable def bodyOf (w : World) (a : Addr) : List Stmt := match (K0 w).lookup a with
  | some o => (match o.data with | .func fd => (match fd.body with | .stmts b => b | _ => []) | _ => [])
  | none => []
section
variable {B : Bd} {φ : Phi} {A : Around} {σ : Sig} {E : Value → Shared → Prop}
/-! ### the factories -/
theorem fact_node {x : Addr} {Q : Val → Sig → Prop} (hA : AOk A 1) (q : ∀ a, σ a = none → Q (.ref a) (σ.upd a (.dI [] 0))) : Cl B φ A (.ref 310) [.ref x] [] σ Q E := by
  refine Cl.def0 (gl := []) (ps := [Str.ofString "self"]) (rest := []) hA rfl rfl (by kernel_rfl) rfl (hb1 fun _ => rfl) rfl (by kernel_rfl) (by intro _ h; cases h) ?_
  intro env A' E' hL hA' eA eE hE
  exact Es.cons (Ex.ret (Ev.dict0I q))
theorem fact_outer {x : Addr} {Q : Val → Sig → Prop} (hA : AOk A 1) (q : ∀ a, σ a = none → Q (.ref a) (σ.upd a (.dI [] 0))) : Cl B φ A (.ref 324) [.ref x] [] σ Q E := by
  refine Cl.def0 (gl := []) (ps := [Str.ofString "self"]) (rest := []) hA rfl rfl (by kernel_rfl) rfl (hb1 fun _ => rfl) rfl (by kernel_rfl) (by intro _ h; cases h) ?_
  intro env A' E' hL hA' eA eE hE
  exact Es.cons (Ex.ret (Ev.dict0I q))
theorem fact_inner {x : Addr} {Q : Val → Sig → Prop} (hA : AOk A 1) (q : ∀ a, σ a = none → Q (.ref a) (σ.upd a (.dI [] 0))) : Cl B φ A (.ref 331) [.ref x] [] σ Q E := by
  refine Cl.def0 (gl := []) (ps := [Str.ofString "self"]) (rest := []) hA rfl rfl (by kernel_rfl) rfl (hb1 fun _ => rfl) rfl (by kernel_rfl) (by intro _ h; cases h) ?_
  intro env A' E' hL hA' eA eE hE
  exact Es.cons (Ex.ret (Ev.dict0I q))
theorem fact_nattr {x : Addr} {Q : Val → Sig → Prop} (hA : AOk A 1) (q : ∀ a, σ a = none → Q (.ref a) (σ.upd a (.dS []))) : Cl B φ A (.ref 317) [.ref x] [] σ Q E := by
  refine Cl.def0 (gl := []) (ps := [Str.ofString "self"]) (rest := []) hA rfl rfl (by kernel_rfl) rfl (hb1 fun _ => rfl) rfl (by kernel_rfl) (by intro _ h; cases h) ?_
  intro env A' E' hL hA' eA eE hE
  exact Es.cons (Ex.ret (Ev.dict0S q))
theorem fact_edge {x : Addr} {Q : Val → Sig → Prop} (hA : AOk A 1) (q : ∀ a, σ a = none → Q (.ref a) (σ.upd a (.dS []))) : Cl B φ A (.ref 338) [.ref x] [] σ Q E := by
  refine Cl.def0 (gl := []) (ps := [Str.ofString "self"]) (rest := []) hA rfl rfl (by kernel_rfl) rfl (hb1 fun _ => rfl) rfl (by kernel_rfl) (by intro _ h; cases h) ?_
  intro env A' E' hL hA' eA eE hE
  exact Es.cons (Ex.ret (Ev.dict0S q))
theorem fact_graph {x : Addr} {Q : Val → Sig → Prop} (hA : AOk A 1) (q : ∀ a, σ a = none → Q (.ref a) (σ.upd a (.dS []))) : Cl B φ A (.ref 345) [.ref x] [] σ Q E := by
  refine Cl.def0 (gl := []) (ps := [Str.ofString "self"]) (rest := []) hA rfl rfl (by kernel_rfl) rfl (hb1 fun _ => rfl) rfl (by kernel_rfl) (by intro _ h; cases h) ?_
  intro env A' E' hL hA' eA eE hE
  exact Es.cons (Ex.ret (Ev.dict0S q))
/-- a new graph's dict -/
noncomputable def gdict (g nd sc pr : Addr) : List (Str × Val) := [(Str.ofString "graph", .ref g), (Str.ofString "_node", .ref nd), (Str.ofString "_adj", .ref sc), (Str.ofString "_succ", .ref sc), (Str.ofString "_pred", .ref pr)]
/-- the fixed facts about stores into a graph -/
theorem seta676 {w : World} : findIn (K0 w) (.ref 676) "__setattr__" = some (some (.builtin "object.__setattr__")) := by kernel_rfl
theorem plainOver676 {w : World} : plainOver (K0 w) 676 = true := by kernel_rfl
/-- a method of a graph -/
structure Meth (w : World) (name : Str) (g : Addr) : Prop where
  plain : plainGet (K0 w) 676 name = true
  find : findIn (K0 w) (.ref 676) name = some (some (.ref g))
  fn : isFn (K0 w) (.ref g) = true
  kept : keepIn (K0 w) (.ref g) = true
theorem m_node {w : World} : Meth w (Str.ofString "node_dict_factory") 310 := ⟨by kernel_rfl, by kernel_rfl, by kernel_rfl, by kernel_rfl⟩
theorem m_outer {w : World} : Meth w (Str.ofString "adjlist_outer_dict_factory") 324 := ⟨by kernel_rfl, by kernel_rfl, by kernel_rfl, by kernel_rfl⟩
theorem m_inner {w : World} : Meth w (Str.ofString "adjlist_inner_dict_factory") 331 := ⟨by kernel_rfl, by kernel_rfl, by kernel_rfl, by kernel_rfl⟩
theorem m_nattr {w : World} : Meth w (Str.ofString "node_attr_dict_factory") 317 := ⟨by kernel_rfl, by kernel_rfl, by kernel_rfl, by kernel_rfl⟩
theorem m_edge {w : World} : Meth w (Str.ofString "edge_attr_dict_factory") 338 := ⟨by kernel_rfl, by kernel_rfl, by kernel_rfl, by kernel_rfl⟩
theorem m_graph {w : World} : Meth w (Str.ofString "graph_attr_dict_factory") 345 := ⟨by kernel_rfl, by kernel_rfl, by kernel_rfl, by kernel_rfl⟩
theorem m_addedge {w : World} : Meth w (Str.ofString "add_edge") 607 := ⟨by kernel_rfl, by kernel_rfl, by kernel_rfl, by kernel_rfl⟩
theorem m_addnodes {w : World} : Meth w (Str.ofString "add_nodes_from") 593 := ⟨by kernel_rfl, by kernel_rfl, by kernel_rfl, by kernel_rfl⟩
theorem m_addnode {w : World} : Meth w (Str.ofString "add_node") 586 := ⟨by kernel_rfl, by kernel_rfl, by kernel_rfl, by kernel_rfl⟩
theorem Ev.methG {f : Fm} {m : LM} {o : Expr} {name : Str} {apos pos : Pos} {es : List Expr} {ks : List Keyword} {Q : Val → Sig → Prop} {g : Addr} (M : Meth B.w name g)
    (h : Ev B φ A f m o σ (fun a σ₁ => ∃ x d kvs out, a = .ref x ∧ σ₁ x = some (.inst 676 d) ∧ σ₁ d = some (.dD kvs out) ∧ name ∉ kvs.map (·.1) ∧
      El B φ A f m pos es σ₁ (fun vs σ₃ => Ek B φ A f m pos ks σ₃ (fun kw σ₄ => Cl B ((f.env.locals, .fr f m) :: φ) A (.ref g) (.ref x :: vs) kw σ₄ Q E) E) E) E)
    (hbase : attributeBase o name f.env (eval o f.env) = eval o f.env := by rfl)
    (hfew : methodCallForm (es.length + ks.length) (backTo pos (starEach es f.env)) (backToKw pos (keywordEach ks f.env)) = true := by rfl)
    (hline : (apos.endLine == pos.line) = true := by rfl)
    (hp : (starEach es f.env).any (·.1) = false := by rfl) (hks : (backToKw pos (keywordEach ks f.env)).all (·.1.isSome) = true := by rfl) (hks' : (backToKw pos (keywordEach ks f.env)).any (·.1.isNone) = false := by rfl) :
    Ev B φ A f m (.Call (.Attribute o name apos) es ks pos) σ Q E := by
  refine Ev.meth (hbase := hbase) (hfew := hfew) (hline := hline) (hp := hp) (hks := hks) (hks' := hks') (h.mono ?_)
  rintro a σ₁ ⟨x, d, kvs, out, rfl, hx, hd, hn, h⟩
  refine Gm.own hx hd hn M.plain M.find M.fn (T.mono h ?_)
  intro vs σ₂ h
  exact ⟨h.1, T.mono h.2 fun vs σ₃ h => ⟨Kp.kin M.kept, h⟩⟩
end
local macro_rules | `(tactic| walk_at "but") => `(tactic| first | exact Sig.But.refl | (refine Sig.But.new ?_ (by assumption); walk_at "but") | (refine Sig.But.upd ?_ (by simp); walk_at "but"))
section
variable {B : Bd} {φ : Phi} {A : Around} {σ : Sig} {E : Value → Shared → Prop}
/-- what a store of a plain attribute asks of the image -/
structure Seta (w : World) (name : Str) : Prop where
  take : takerIn (K0 w) 676 name = some none
theorem sa_graph {w : World} : Seta w (Str.ofString "graph") := ⟨by kernel_rfl⟩
theorem sa_node {w : World} : Seta w (Str.ofString "_node") := ⟨by kernel_rfl⟩
theorem sa_adj {w : World} : Seta w (Str.ofString "_adj") := ⟨by kernel_rfl⟩
theorem sa_succ {w : World} : Seta w (Str.ofString "_succ") := ⟨by kernel_rfl⟩
theorem sa_pred {w : World} : Seta w (Str.ofString "_pred") := ⟨by kernel_rfl⟩
theorem Sa.attr {x d : Addr} {kvs : List (Str × Val)} {out : Bool} {name : Str} {v : Val} {Q : Sig → Prop} (M : Seta B.w name) (hx : σ x = some (.inst 676 d)) (hd : σ d = some (.dD kvs out)) (hn : name ∉ kvs.map (·.1)) (hz : kvs.length ≤ 900)
    (q : Q (σ.upd d (.dD (kvs ++ [(name, v)]) out))) : Sa B φ A (.ref x) name v σ Q E := Sa.new hx hd hn hz seta676 plainOver676 M.take hasDict676 q
/-- what a read of an own attribute asks of the image -/
structure Geta (w : World) (name : Str) : Prop where
  plain : plainGet (K0 w) 676 name = true
  own : ownFirst (K0 w) 676 name = true
theorem ga_graph {w : World} : Geta w (Str.ofString "graph") := ⟨by kernel_rfl, by kernel_rfl⟩
theorem ga_node {w : World} : Geta w (Str.ofString "_node") := ⟨by kernel_rfl, by kernel_rfl⟩
theorem ga_adj {w : World} : Geta w (Str.ofString "_adj") := ⟨by kernel_rfl, by kernel_rfl⟩
theorem ga_succ {w : World} : Geta w (Str.ofString "_succ") := ⟨by kernel_rfl, by kernel_rfl⟩
theorem ga_pred {w : World} : Geta w (Str.ofString "_pred") := ⟨by kernel_rfl, by kernel_rfl⟩
theorem Ga.attr {x d a : Addr} {kvs : List (Str × Val)} {out : Bool} {name : Str} {Q : Val → Sig → Prop} (M : Geta B.w name) (hx : σ x = some (.inst 676 d)) (hd : σ d = some (.dD kvs out)) (hv : (name, Val.ref a) ∈ kvs) (q : Q (.ref a) σ) : Ga B φ A (.ref x) name σ Q E :=
  Ga.own hx hd hv M.plain M.own ⟨a, rfl⟩ q
theorem init_body {env : Env} {at_ x d : Addr} {more : List (Str × Val)} {Q : Val → Sig → Prop} (hA : AOk A 2) (hx : σ x = some (.inst 676 d)) (hd : σ d = some (.dD [] false)) (ha : σ at_ = some (.dS more)) (hz : more.length ≤ 900) (hb : Str.ofString "backend" ∉ more.map (·.1))
    (q : ∀ g nd sc pr σ', σ g = none → σ nd = none → σ sc = none → σ pr = none → nd ≠ sc → nd ≠ pr → sc ≠ pr → σ.But σ' [d] →
      σ' d = some (.dD (gdict g nd sc pr) false) → σ' g = some (.dS more) → σ' nd = some (.dI [] 0) → σ' sc = some (.dI [] 0) → σ' pr = some (.dI [] 0) → Q .none σ') :
    Es B φ A ⟨env, [], []⟩ [(Str.ofString "self", some (.ref x)), (Str.ofString "incoming_graph_data", some .none), (Str.ofString "attr", some (.ref at_))] (bodyOf B.w 559) σ (fun r _ σ' => Q (retOf r) σ') E := by
  refine Es.cons (Ex.asgAttr (Ev.methG m_graph (Ev.loc (by walk_at "mem") ⟨_, _, _, _, rfl, hx, hd, by walk_at "nokeys", El.nil (Ek.nil (fact_graph (by walk_at "aok") ?_))⟩)))
  intro g hg
  have xg : x ≠ g := Sig.ne hx hg
  have dg : d ≠ g := Sig.ne hd hg
  have xd : x ≠ d := fun e => by rw [e, hd] at hx; cases hx
  have ag : at_ ≠ g := Sig.ne ha hg
  have ad : at_ ≠ d := fun e => by rw [e, hd] at ha; cases ha
  refine Ev.loc (by walk_at "mem") (Sa.attr sa_graph (d := d) (kvs := []) (out := false) (by walk_at "look") (by walk_at "look") (by walk_at "nokeys") (by simp) (Seq.next ?_))
  refine Es.cons (Ex.asgAttr (Ev.methG m_node (Ev.loc (by walk_at "mem") ⟨_, d, _, _, rfl, by walk_at "look", by walk_at "look", by walk_at "nokeys", El.nil (Ek.nil (fact_node (by walk_at "aok") ?_))⟩)))
  intro nd hnd
  obtain ⟨n1, hnd⟩ := Sig.upd_none hnd
  obtain ⟨n2, hnd⟩ := Sig.upd_none hnd
  have xn : x ≠ nd := Sig.ne hx hnd
  have an : at_ ≠ nd := Sig.ne ha hnd
  refine Ev.loc (by walk_at "mem") (Sa.attr sa_node (d := d) (kvs := [_]) (out := false) (by walk_at "look") (by walk_at "look") (by walk_at "nokeys") (by simp) (Seq.next ?_))
  refine Es.cons (Ex.asgAttr (Ev.methG m_outer (Ev.loc (by walk_at "mem") ⟨_, d, _, _, rfl, by walk_at "look", by walk_at "look", by walk_at "nokeys", El.nil (Ek.nil (fact_outer (by walk_at "aok") ?_))⟩)))
  intro sc hsc
  obtain ⟨_, hsc⟩ := Sig.upd_none hsc
  obtain ⟨_, hsc⟩ := Sig.upd_none hsc
  obtain ⟨_, hsc⟩ := Sig.upd_none hsc
  obtain ⟨_, hsc⟩ := Sig.upd_none hsc
  have xs : x ≠ sc := Sig.ne hx hsc
  have as : at_ ≠ sc := Sig.ne ha hsc
  refine Ev.loc (by walk_at "mem") (Sa.attr sa_adj (d := d) (kvs := [_, _]) (out := false) (by walk_at "look") (by walk_at "look") (by walk_at "nokeys") (by simp) (Seq.next ?_))
  refine Es.cons (Ex.asgAttr (Ev.attr (Ev.loc (by walk_at "mem") (Ga.attr ga_adj (d := d) (kvs := [_, _, _]) (out := false) (a := sc) (by walk_at "look") (by walk_at "look") (by walk_at "mem") ?_))))
  refine Ev.loc (by walk_at "mem") (Sa.attr sa_succ (d := d) (kvs := [_, _, _]) (out := false) (by walk_at "look") (by walk_at "look") (by walk_at "nokeys") (by simp) (Seq.next ?_))
  refine Es.cons (Ex.asgAttr (Ev.methG m_outer (Ev.loc (by walk_at "mem") ⟨_, d, _, _, rfl, by walk_at "look", by walk_at "look", by walk_at "nokeys", El.nil (Ek.nil (fact_outer (by walk_at "aok") ?_))⟩)))
  intro pr hpr
  obtain ⟨_, hpr⟩ := Sig.upd_none hpr
  obtain ⟨_, hpr⟩ := Sig.upd_none hpr
  obtain ⟨_, hpr⟩ := Sig.upd_none hpr
  obtain ⟨_, hpr⟩ := Sig.upd_none hpr
  obtain ⟨_, hpr⟩ := Sig.upd_none hpr
  obtain ⟨_, hpr⟩ := Sig.upd_none hpr
  obtain ⟨_, hpr⟩ := Sig.upd_none hpr
  have xp : x ≠ pr := Sig.ne hx hpr
  have ap : at_ ≠ pr := Sig.ne ha hpr
  refine Ev.loc (by walk_at "mem") (Sa.attr sa_pred (d := d) (kvs := [_, _, _, _]) (out := false) (by walk_at "look") (by walk_at "look") (by walk_at "nokeys") (by simp) (Seq.next ?_))
  refine Es.cons (Ex.ifs (Bt.cmp (Ev.loc (by walk_at "mem") (Ev.none (Cm.isNotNoneF (Tr.bool ⟨fun h => (nomatch h), fun _ => Es.nil (Seq.next ?_)⟩))))))
  refine Es.cons (Ex.expr (Ev.meth (Ev.loc (by walk_at "mem") (Gm.dPop (kvs := more) (by walk_at "look") (El.cons (Ev.str (El.cons (Ev.none (El.nil (Ek.nil ⟨Kp.bi, Cl.dPop (kvs := more) (by walk_at "look") hb (Seq.next ?_)⟩))))))))))
  refine Es.cons (Ex.expr (Ev.meth (Ev.attr (Ev.loc (by walk_at "mem") (Ga.attr ga_graph (d := d) (kvs := [_, _, _, _, _]) (out := false) (a := g) (by walk_at "look") (by walk_at "look") (by walk_at "mem") (Gm.dUpdate (kvs := []) (by walk_at "look") (El.cons (Ev.loc (by walk_at "mem") (El.nil (Ek.nil ⟨Kp.bi, Cl.dUpdate0 (more := more) (by walk_at "look") (by walk_at "look") (by walk_at "ne") (by omega) (Seq.next (Es.nil ?_))⟩))))))))))
  refine q g nd sc pr _ hg hnd hsc hpr (by walk_at "ne") (by walk_at "ne") (by walk_at "ne") (by walk_at "but") (by walk_at "look") (by walk_at "look") (by walk_at "look") (by walk_at "look") (by walk_at "look")
theorem BindK.nil {cells : List (Str × Addr)} {K : LM → Sig → Prop} {m : LM} {σ : Sig} (h : K m σ) : BindK cells K [] m σ := h
theorem init_inf {x d : Addr} {big : Int} {Q : Val → Sig → Prop} (hA : AOk A 3) (hx : σ x = some (.inst 676 d)) (hd : σ d = some (.dD [] false))
    (q : ∀ g nd sc pr σ', σ g = none → σ nd = none → σ sc = none → σ pr = none → nd ≠ sc → nd ≠ pr → sc ≠ pr → σ.But σ' [d] →
      σ' d = some (.dD (gdict g nd sc pr) false) → σ' g = some (.dS [(Str.ofString "inf", .int big)]) → σ' nd = some (.dI [] 0) → σ' sc = some (.dI [] 0) → σ' pr = some (.dI [] 0) → Q .none σ') :
    Cd B φ A (.ref 559) [.ref x] [(Str.ofString "inf", .int big)] σ Q E := by
  refine Cd.defC (k := 2) (ls := [Str.ofString "self", Str.ofString "incoming_graph_data", Str.ofString "attr"]) (gl := []) hA (fun s S => ⟨S.kin _ _ rfl, codeRec_of S.kin (by kernel_rfl)⟩) rfl rfl (by kernel_rfl) (by exact List.nodup_nil) (by walk_at "gl") ?_
  intro us ks hu hk s F S
  obtain ⟨a, rfl, ha⟩ := one_arg hu
  obtain ⟨b, rfl, hb⟩ := one_kw hk
  show wpAny _ _ (seqItems? (.ref 552) >>= _) _ _ _
  refine wpAny_bind (wpAny_seqItems (S.kin _ _ rfl) rfl ?_)
  show wpAny _ _ (alloc { cls := .type "dict", data := .dict #[] } >>= _) _ _ _
  refine wpAny_bind (wpAny_alloc ?_)
  obtain ⟨S₁, hfr⟩ := kwdict S
  show wpAny _ _ (forIn [(Str.ofString "inf", b)] PUnit.unit _ >>= _) _ _ _
  refine wpAny_bind ?_
  rw [List.forIn_cons]
  refine wpAny_bind (wpAny_bind (nsSet_new S₁ Sig.upd_self (by simp) fun s₂ S₂ => ?_))
  refine wpAny_pure (wpAny_pure (wpAny_pure ⟨_, S₂, ?_⟩))
  intro env A' E' as hA' eA eE hE hlen hfr'
  obtain rfl : as = [] := List.length_eq_zero_iff.mp hlen
  refine .inl ⟨_, .head, .inl ⟨_, .tail .head, .inl ⟨_, .tail (.tail .head), ?_⟩⟩⟩
  rw [Sig.upd_upd]
  refine BindK.nil ?_
  show Es B φ A' ⟨env, [], []⟩ [(Str.ofString "self", some (er a)), (Str.ofString "incoming_graph_data", some .none), (Str.ofString "attr", some (.ref s.heap.objs.size))] (bodyOf B.w 559) (σ.upd s.heap.objs.size (Cell.dS [(Str.ofString "inf", er b)])) _ E'
  rw [ha, hb]
  have xs : x ≠ s.heap.objs.size := Sig.ne hx hfr
  have ds : d ≠ s.heap.objs.size := Sig.ne hd hfr
  refine init_body hA' (by walk_at "look") (by walk_at "look") Sig.upd_self (by simp) (by walk_at "nokeys") ?_
  intro g nd sc pr σ' hg hn hs hp e1 e2 e3 bt h1 h2 h3 h4 h5
  exact q g nd sc pr σ' (Sig.upd_none hg).2 (Sig.upd_none hn).2 (Sig.upd_none hs).2 (Sig.upd_none hp).2 e1 e2 e3 (fun b c e n => bt b c ((Sig.upd_ne (Sig.ne e hfr)).trans e) n) h1 h2 h3 h4 h5
theorem init_0 {x d : Addr} {Q : Val → Sig → Prop} (hA : AOk A 3) (hx : σ x = some (.inst 676 d)) (hd : σ d = some (.dD [] false))
    (q : ∀ g nd sc pr σ', σ g = none → σ nd = none → σ sc = none → σ pr = none → nd ≠ sc → nd ≠ pr → sc ≠ pr → σ.But σ' [d] →
      σ' d = some (.dD (gdict g nd sc pr) false) → σ' g = some (.dS []) → σ' nd = some (.dI [] 0) → σ' sc = some (.dI [] 0) → σ' pr = some (.dI [] 0) → Q .none σ') :
    Cd B φ A (.ref 559) [.ref x] [] σ Q E := by
  refine Cd.defC (k := 2) (ls := [Str.ofString "self", Str.ofString "incoming_graph_data", Str.ofString "attr"]) (gl := []) hA (fun s S => ⟨S.kin _ _ rfl, codeRec_of S.kin (by kernel_rfl)⟩) rfl rfl (by kernel_rfl) (by exact List.nodup_nil) (by walk_at "gl") ?_
  intro us ks hu hk s F S
  obtain ⟨a, rfl, ha⟩ := one_arg hu
  obtain rfl := no_kw hk
  show wpAny _ _ (seqItems? (.ref 552) >>= _) _ _ _
  refine wpAny_bind (wpAny_seqItems (S.kin _ _ rfl) rfl ?_)
  show wpAny _ _ (alloc { cls := .type "dict", data := .dict #[] } >>= _) _ _ _
  refine wpAny_bind (wpAny_alloc ?_)
  obtain ⟨S₂, hfr⟩ := kwdict S
  refine wpAny_pure ⟨_, S₂, ?_⟩
  intro env A' E' as hA' eA eE hE hlen hfr'
  obtain rfl : as = [] := List.length_eq_zero_iff.mp hlen
  refine .inl ⟨_, .head, .inl ⟨_, .tail .head, .inl ⟨_, .tail (.tail .head), BindK.nil ?_⟩⟩⟩
  show Es B φ A' ⟨env, [], []⟩ [(Str.ofString "self", some (er a)), (Str.ofString "incoming_graph_data", some .none), (Str.ofString "attr", some (.ref s.heap.objs.size))] (bodyOf B.w 559) (σ.upd s.heap.objs.size (Cell.dS [])) _ E'
  rw [ha]
  have xs : x ≠ s.heap.objs.size := Sig.ne hx hfr
  have ds : d ≠ s.heap.objs.size := Sig.ne hd hfr
  refine init_body hA' (by walk_at "look") (by walk_at "look") Sig.upd_self (by decide) (by exact List.not_mem_nil) ?_
  intro g nd sc pr σ' hg hn hs hp e1 e2 e3 bt h1 h2 h3 h4 h5
  exact q g nd sc pr σ' (Sig.upd_none hg).2 (Sig.upd_none hn).2 (Sig.upd_none hs).2 (Sig.upd_none hp).2 e1 e2 e3 (fun b c e n => bt b c ((Sig.upd_ne (Sig.ne e hfr)).trans e) n) h1 h2 h3 h4 h5
end
theorem take_spec {B : Bd} {φ : Phi} {A : Around} {σ : Sig} {E : Value → Shared → Prop} {d it : Addr} {seed many : Int} {xs : List Int} {Q : Val → Sig → Prop} (hA : AOk A 3)
    (hd : σ d = some (.list [.ref it, .int seed])) (hi : σ it = some (.list (xs.map Val.int))) (hm : 0 < many) (hx : xs.length ≤ 900)
    (q : ∀ (r : Int) (xs' : List Int) (seed' : Int), 0 ≤ r → r < many → xs'.length ≤ xs.length → Q (.int r) ((σ.upd it (.list (xs'.map Val.int))).upd d (.list [.ref it, .int seed']))) :
    Cl B φ A (.ref 719) [.ref d, .int many] [] σ Q E := by
  have hdi : d ≠ it := by intro e; subst e; rw [hd] at hi; cases xs with
    | nil => simp at hi
    | cons x xs => cases xs <;> simp at hi
  have gl : ∀ r : Int, 0 ≤ r.fmod many ∧ r.fmod many < many := fun r => ⟨Int.fmod_nonneg_of_pos _ hm, Int.fmod_lt_of_pos _ hm⟩
  refine Cl.def0 (gl := []) (ps := [Str.ofString "draw", Str.ofString "many"]) (rest := [Str.ofString "found"]) hA rfl rfl ?_ rfl ?_ rfl ?_ ?_ ?_
  · kernel_rfl
  · exact hb2 fun _ _ => rfl
  · kernel_rfl
  · intro _ h; cases h
  · intro env A' E' hL hA' eA eE hE
    clear eA eE hA hL
    have lm : ∀ a b c, lmOf [Str.ofString "draw", Str.ofString "many"] [a, b] [c] = [(Str.ofString "draw", some a), (Str.ofString "many", some b), (c, none)] := fun _ _ _ => rfl
    rw [lm]
    refine Es.cons (Ex.ifs (Bt.cmp (Ev.sub (Ev.loc (by walk_at "mem") (Ev.int ?_)))))
    refine Su.list hd (by decide) (by decide) rfl ?_
    refine Ev.list (El.nil ⟨by decide, fun a ha => ?_⟩)
    have hda : d ≠ a := Sig.ne hd ha
    have hia : it ≠ a := Sig.ne hi ha
    refine Cm.neInts (ns := xs) (ms := []) (by walk_at "aok") (by walk_at "look") (by walk_at "look") ?_
    refine Tr.bool ⟨fun hb => ?_, fun hb => ?_⟩
    · cases xs with
      | nil => simp at hb
      | cons x xs =>
        refine Es.le ?_ (σ' := σ) (Sig.le_fresh ha Sig.le_refl)
        refine Es.cons (Ex.asg (Ev.meth (Ev.sub (Ev.loc (by walk_at "mem") (Ev.int ?_)))))
        refine Su.list (by walk_at "look") (by decide) (by decide) rfl ?_
        refine Gm.pop (by walk_at "look") ?_
        refine El.cons (Ev.int (El.nil (Ek.nil ⟨Kp.bi, ?_⟩)))
        refine Cl.pop0 (v := .int x) (vs := xs.map Val.int) (by walk_at "look") (by simp at hx ⊢; omega) ?_
        walk_at "stok"
        refine Seq.next (Es.nil (Seq.next (Es.cons (Ex.ret (Ev.bin (Ev.loc (by walk_at "mem") (Ev.loc (by walk_at "mem") ?_)))))))
        refine Bn.mod (by omega) ?_
        have := q _ xs seed (gl x).1 (gl x).2 (by simp)
        rw [Sig.upd_comm hdi.symm, Sig.upd_same hd] at this
        exact this
    · refine Es.le ?_ (σ' := σ) (Sig.le_fresh ha Sig.le_refl)
      refine Es.cons (Ex.asgSub (Ev.bin (Ev.bin (Ev.sub (Ev.loc (by walk_at "mem") (Ev.int ?_))))))
      refine Su.list hd (by decide) (by decide) rfl ?_
      refine Ev.int (Bn.mul ?_ (Ev.int (Bn.mod (by decide) ?_)))
      · exact IntMulOk.of_right (by decide +kernel)
      refine Ev.loc (by walk_at "mem") (Ev.int ?_)
      refine Si.list hd (by decide) (by decide) (by simp) ?_
      have hdi' := hdi.symm
      refine Seq.next (Es.cons (Ex.asg (Ev.bin (Ev.sub (Ev.loc (by walk_at "mem") (Ev.int (Su.list (by walk_at "look") (by decide) (by decide) rfl ?_)))))))
      refine Ev.int (Bn.fdiv (by decide) rfl ?_)
      walk_at "stok"
      refine Seq.next (Es.nil (Seq.next (Es.cons (Ex.ret (Ev.bin (Ev.loc (by walk_at "mem") (Ev.loc (by walk_at "mem") ?_)))))))
      refine Bn.mod (by omega) ?_
      have := q _ xs ((seed * 48271).fmod 2147483647) (gl (((seed * 48271).fmod 2147483647).fdiv 7)).1 (gl _).2 (Nat.le_refl _)
      rw [Sig.upd_same hi] at this
      exact this
section
variable {B : Bd} {φ : Phi} {A : Around} {σ : Sig} {E : Value → Shared → Prop}
theorem addedge_spec {x d sc pr su pv : Addr} {kvs : List (Str × Val)} {out : Bool} {sct prt suk pvk : List (Int × Val)} {e1 e2 e3 e4 : Nat} {u v c fl : Int} {Q : Val → Sig → Prop} (hA : AOk A 3) (hh : A.handled = none)
    (hx : σ x = some (.inst 676 d)) (hd : σ d = some (.dD kvs out)) (hadj : (Str.ofString "_adj", Val.ref sc) ∈ kvs) (hsucc : (Str.ofString "_succ", Val.ref sc) ∈ kvs) (hpred : (Str.ofString "_pred", Val.ref pr) ∈ kvs)
    (hnf : Str.ofString "edge_attr_dict_factory" ∉ kvs.map (·.1)) (hsc : σ sc = some (.dI sct e1)) (hpr : σ pr = some (.dI prt e2)) (hu : (u, Val.ref su) ∈ sct) (hv : v ∈ sct.map (·.1)) (hpv : (v, Val.ref pv) ∈ prt)
    (hsu : σ su = some (.dI suk e3)) (hvn : v ∉ suk.map (·.1)) (hz : suk.length ≤ 900) (hpv' : σ pv = some (.dI pvk e4)) (hun : u ∉ pvk.map (·.1)) (hz' : pvk.length ≤ 900) (hne : su ≠ pv) (hs1 : su ≠ pr) (hs2 : su ≠ sc)
    (q : ∀ e σ' ep ep', σ e = none → σ.But σ' [su, pv] → σ' su = some (.dI (suk ++ [(v, .ref e)]) ep) → σ' pv = some (.dI (pvk ++ [(u, .ref e)]) ep') → σ' e = some (.dS [(Str.ofString "capacity", .int c), (Str.ofString "flow", .int fl)]) → Q .none σ') :
    Cl B φ A (.ref 607) [.ref x, .int u, .int v] [(Str.ofString "capacity", .int c), (Str.ofString "flow", .int fl)] σ Q E := by
  refine Cl.defC (k := 2) (ls := [Str.ofString "self", Str.ofString "u_of_edge", Str.ofString "v_of_edge", Str.ofString "attr", Str.ofString "u", Str.ofString "v", Str.ofString "datadict"]) (gl := []) hA (fun s S => ⟨S.kin _ _ rfl, codeRec_of S.kin (by kernel_rfl)⟩) rfl rfl (by kernel_rfl) (by exact List.nodup_nil) (by walk_at "gl") ?_
  intro us ks hus hk s F S
  obtain ⟨a, b₁, b₂, rfl, ha, hb1, hb2⟩ := three_arg hus
  obtain ⟨k₁, k₂, rfl, hk1, hk2⟩ := two_kw hk
  show wpAny _ _ (alloc { cls := .type "dict", data := .dict #[] } >>= _) _ _ _
  refine wpAny_bind (wpAny_alloc ?_)
  obtain ⟨S₁, hfr⟩ := kwdict S
  show wpAny _ _ (forIn [(Str.ofString "capacity", k₁), (Str.ofString "flow", k₂)] PUnit.unit _ >>= _) _ _ _
  refine wpAny_bind ?_
  rw [List.forIn_cons]
  refine wpAny_bind (wpAny_bind (nsSet_new S₁ Sig.upd_self (by simp) fun s₂ S₂ => ?_))
  refine wpAny_pure ?_
  dsimp only
  rw [List.forIn_cons]
  refine wpAny_bind (wpAny_bind (nsSet_new S₂ Sig.upd_self (by walk_at "nokeys") fun s₃ S₃ => ?_))
  refine wpAny_pure (wpAny_pure (wpAny_pure ⟨_, S₃, ?_⟩))
  intro env A' E' as hA' eA eE hE hlen hfr'
  obtain rfl : as = [] := List.length_eq_zero_iff.mp hlen
  refine .inl ⟨_, .head, .inl ⟨_, .tail .head, .inl ⟨_, .tail (.tail .head), .inl ⟨_, .tail (.tail (.tail .head)), ?_⟩⟩⟩⟩
  rw [Sig.upd_upd, Sig.upd_upd]
  refine BindK.nil ?_
  have hh' : A'.handled = none := by rw [eA]; exact hh
  show Es B φ A' ⟨env, [], []⟩ [(Str.ofString "self", some (er a)), (Str.ofString "u_of_edge", some (er b₁)), (Str.ofString "v_of_edge", some (er b₂)), (Str.ofString "attr", some (.ref s.heap.objs.size)), (Str.ofString "u", none), (Str.ofString "v", none), (Str.ofString "datadict", none)] (bodyOf B.w 607) (σ.upd s.heap.objs.size (Cell.dS [(Str.ofString "capacity", er k₁), (Str.ofString "flow", er k₂)])) _ E'
  rw [ha, hb1, hb2, hk1, hk2]
  generalize s.heap.objs.size = at_ at hfr ⊢
  have xa : x ≠ at_ := Sig.ne hx hfr
  have da : d ≠ at_ := Sig.ne hd hfr
  have sca : sc ≠ at_ := Sig.ne hsc hfr
  have pra : pr ≠ at_ := Sig.ne hpr hfr
  have sua : su ≠ at_ := Sig.ne hsu hfr
  have pva : pv ≠ at_ := Sig.ne hpv' hfr
  clear hus hk S S₁ S₂ S₃ hfr' eA eE hE hlen hA F
  refine Es.cons (Ex.swap2 hh' (Ev.loc (by walk_at "mem") (Ev.loc (by walk_at "mem") fun t ht => ⟨_, _, by walk_at "sto", by walk_at "sto", Seq.next ?_⟩)) (by walk_at "mem") (by walk_at "mem"))
  obtain ⟨ta, ht⟩ := Sig.upd_none ht
  have xt : x ≠ t := Sig.ne hx ht
  have dt : d ≠ t := Sig.ne hd ht
  have sct' : sc ≠ t := Sig.ne hsc ht
  have prt' : pr ≠ t := Sig.ne hpr ht
  have sut : su ≠ t := Sig.ne hsu ht
  have pvt : pv ≠ t := Sig.ne hpv' ht
  have ta' : at_ ≠ t := ta.symm
  refine Es.le ?_ (σ' := σ.upd at_ (Cell.dS [(Str.ofString "capacity", Val.int c), (Str.ofString "flow", Val.int fl)])) (Sig.le_fresh (by rw [Sig.upd_ne ta]; exact ht) Sig.le_refl)
  refine Es.cons (Ex.ifs (Bt.cmp (Ev.loc (by walk_at "mem") (Ev.attr (Ev.loc (by walk_at "mem") (Ga.attr ga_succ (d := d) (kvs := kvs) (out := out) (a := sc) (by walk_at "look") (by walk_at "look") hsucc (Cm.notInI (kvs := sct) (by walk_at "look") ?_)))))))
  rw [decide_eq_true (List.mem_map_of_mem (f := (·.1)) hu)]
  refine Tr.bool (tF (Es.nil (Seq.next ?_)))
  refine Es.cons (Ex.ifs (Bt.cmp (Ev.loc (by walk_at "mem") (Ev.attr (Ev.loc (by walk_at "mem") (Ga.attr ga_succ (d := d) (kvs := kvs) (out := out) (a := sc) (by walk_at "look") (by walk_at "look") hsucc (Cm.notInI (kvs := sct) (by walk_at "look") ?_)))))))
  rw [decide_eq_true hv]
  refine Tr.bool (tF (Es.nil (Seq.next ?_)))
  refine Es.cons (Ex.asg (Ev.meth (Ev.sub (Ev.attr (Ev.loc (by walk_at "mem") (Ga.attr ga_adj (d := d) (kvs := kvs) (out := out) (a := sc) (by walk_at "look") (by walk_at "look") hadj (Ev.loc (by walk_at "mem") (Su.dI (kvs := sct) (by walk_at "look") hu ?_))))))))
  refine Gm.dGetI (kvs := suk) (by walk_at "look") (El.cons (Ev.loc (by walk_at "mem") (El.cons (Ev.methG m_edge (Ev.loc (by walk_at "mem") ⟨_, d, kvs, out, rfl, by walk_at "look", by walk_at "look", hnf, El.nil (Ek.nil (fact_edge (by walk_at "aok") ?_))⟩)))))
  intro e he
  obtain ⟨ea, he⟩ := Sig.upd_none he
  have ea' : at_ ≠ e := ea.symm
  have xe : x ≠ e := Sig.ne hx he
  have de : d ≠ e := Sig.ne hd he
  have sce : sc ≠ e := Sig.ne hsc he
  have pre : pr ≠ e := Sig.ne hpr he
  have sue : su ≠ e := Sig.ne hsu he
  have pve : pv ≠ e := Sig.ne hpv' he
  refine El.nil (Ek.nil ⟨Kp.bi, Cl.dGetI (kvs := suk) (by walk_at "look") (fun w hw => absurd (List.mem_map_of_mem (f := (·.1)) hw) hvn) fun _ => ?_⟩)
  walk_at "stok"
  refine Seq.next (Es.cons (Ex.expr (Ev.meth (Ev.loc (by walk_at "mem") (Gm.dUpdate (kvs := []) (by walk_at "look") (El.cons (Ev.loc (by walk_at "mem") (El.nil (Ek.nil ⟨Kp.bi, Cl.dUpdate0 (more := [(Str.ofString "capacity", Val.int c), (Str.ofString "flow", Val.int fl)]) (by walk_at "look") (by walk_at "look") (by walk_at "ne") (by simp) ?_⟩)))))))))
  refine Seq.next (Es.cons (Ex.asgSub (Ev.loc (by walk_at "mem") (Ev.sub (Ev.attr (Ev.loc (by walk_at "mem") (Ga.attr ga_succ (d := d) (kvs := kvs) (out := out) (a := sc) (by walk_at "look") (by walk_at "look") hsucc (Ev.loc (by walk_at "mem") (Su.dI (kvs := sct) (by walk_at "look") hu ?_)))))))))
  refine Ev.loc (by walk_at "mem") (Si.dIn (kvs := suk) (by walk_at "look") (by omega) hvn fun ep => ?_)
  have sx : x ≠ su := fun e => by rw [e, hsu] at hx; cases hx
  have sd : d ≠ su := fun e => by rw [e, hsu] at hd; cases hd
  refine Seq.next (Es.cons (Ex.asgSub (Ev.loc (by walk_at "mem") (Ev.sub (Ev.attr (Ev.loc (by walk_at "mem") (Ga.attr ga_pred (d := d) (kvs := kvs) (out := out) (a := pr) (by walk_at "look") (by walk_at "look") hpred (Ev.loc (by walk_at "mem") (Su.dI (kvs := prt) (ep := e2) (by walk_at "look") hpv ?_)))))))))
  refine Ev.loc (by walk_at "mem") (Si.dIn (kvs := pvk) (by walk_at "look") (by omega) hun fun ep' => Seq.next (Es.nil ?_))
  refine q e _ ep ep' he ?_ (by walk_at "look") (by walk_at "look") (by walk_at "look")
  refine Sig.But.upd (Sig.But.upd (Sig.But.new (Sig.But.new (Sig.But.new Sig.But.refl ?_) ?_) ?_) (by simp)) (by simp) <;> assumption
end
noncomputable def setF {α : Type} (f : Int → α) (n : Int) (a : α) : Int → α := fun k => if k = n then a else f k
theorem setF_self {α : Type} {f : Int → α} {n : Int} {a : α} : setF f n a n = a := if_pos rfl
theorem setF_ne {α : Type} {f : Int → α} {n k : Int} {a : α} (h : k ≠ n) : setF f n a k = f k := if_neg h
theorem setF_map {α β : Type} {f : Int → α} {n : Int} {a : α} {N : List Int} {g : Int → α → β} (h : n ∉ N) : N.map (fun k => g k (setF f n a k)) = N.map fun k => g k (f k) :=
  List.map_congr_left fun k hk => by rw [setF_ne (f := f) (a := a) fun e : k = n => h (e ▸ hk)]
noncomputable abbrev tabOf (N : List Int) (f : Int → Addr) : List (Int × Val) := N.map fun n => (n, Val.ref (f n))
theorem tabOf_keys {N : List Int} {f : Int → Addr} : (tabOf N f).map (·.1) = N := by
  rw [List.map_map]; show N.map (fun n => n) = N; simp
/-- nodes without edges -/
structure NodesAt (σ₀ σ : Sig) (nd sc pr : Addr) (N : List Int) (na sa pa : Int → Addr) : Prop where
  cnd : ∃ ep, σ nd = some (.dI (tabOf N na) ep)
  csc : ∃ ep, σ sc = some (.dI (tabOf N sa) ep)
  cpr : ∃ ep, σ pr = some (.dI (tabOf N pa) ep)
  cna : ∀ n ∈ N, σ (na n) = some (.dS [])
  csa : ∀ n ∈ N, σ (sa n) = some (.dI [] 0)
  cpa : ∀ n ∈ N, σ (pa n) = some (.dI [] 0)
  fresh : ∀ n ∈ N, σ₀ (na n) = none ∧ σ₀ (sa n) = none ∧ σ₀ (pa n) = none
  sinj : ∀ n ∈ N, ∀ k ∈ N, sa n = sa k → n = k
  pinj : ∀ n ∈ N, ∀ k ∈ N, pa n = pa k → n = k
  sp : ∀ n ∈ N, ∀ k ∈ N, sa n ≠ pa k
  but : σ₀.But σ [nd, sc, pr]
theorem NodesAt.none {σ₀ σ : Sig} {nd sc pr a : Addr} {N : List Int} {na sa pa : Int → Addr} (h : NodesAt σ₀ σ nd sc pr N na sa pa) (ha : σ a = Option.none) : σ₀ a = Option.none := by
  cases e : σ₀ a with
  | none => rfl
  | some c =>
    by_cases m : a ∈ [nd, sc, pr]
    · simp only [List.mem_cons, List.not_mem_nil, or_false] at m
      rcases m with rfl | rfl | rfl
      · obtain ⟨_, h⟩ := h.cnd; rw [h] at ha; cases ha
      · obtain ⟨_, h⟩ := h.csc; rw [h] at ha; cases ha
      · obtain ⟨_, h⟩ := h.cpr; rw [h] at ha; cases ha
    · rw [h.but a c e m] at ha; cases ha
theorem NodesAt.step {σ₀ σ : Sig} {nd sc pr s1 p1 a1 : Addr} {N : List Int} {na sa pa : Int → Addr} {n : Int} {f1 f2 f3 : Nat} (h : NodesAt σ₀ σ nd sc pr N na sa pa) (hn : n ∉ N) (h1 : σ s1 = Option.none) (h2 : σ p1 = Option.none) (h3 : σ a1 = Option.none)
    (d1 : p1 ≠ s1) (d2 : a1 ≠ s1) (d3 : a1 ≠ p1) (e1 : nd ≠ sc) (e2 : nd ≠ pr) (e3 : sc ≠ pr) :
    NodesAt σ₀ ((((((σ.upd s1 (.dI [] 0)).upd sc (.dI (tabOf N sa ++ [(n, .ref s1)]) f1)).upd p1 (.dI [] 0)).upd pr (.dI (tabOf N pa ++ [(n, .ref p1)]) f2)).upd a1 (.dS [])).upd nd (.dI (tabOf N na ++ [(n, .ref a1)]) f3)) nd sc pr (N ++ [n]) (setF na n a1) (setF sa n s1) (setF pa n p1) := by
  obtain ⟨g1, hnd⟩ := h.cnd
  obtain ⟨g2, hsc⟩ := h.csc
  obtain ⟨g3, hpr⟩ := h.cpr
  have t : ∀ (f : Int → Addr) (a : Addr), tabOf (N ++ [n]) (setF f n a) = tabOf N f ++ [(n, .ref a)] := fun f a => by
    unfold tabOf
    rw [List.map_append, setF_map (g := fun k a => (k, Val.ref a)) hn]
    simp [setF_self]
  have nd1 : nd ≠ s1 := Sig.ne hnd h1
  have nd2 : nd ≠ p1 := Sig.ne hnd h2
  have nd3 : nd ≠ a1 := Sig.ne hnd h3
  have sc1 : sc ≠ s1 := Sig.ne hsc h1
  have sc2 : sc ≠ p1 := Sig.ne hsc h2
  have sc3 : sc ≠ a1 := Sig.ne hsc h3
  have pr1 : pr ≠ s1 := Sig.ne hpr h1
  have pr2 : pr ≠ p1 := Sig.ne hpr h2
  have pr3 : pr ≠ a1 := Sig.ne hpr h3
  have ne : ∀ k, k ∈ N → k ≠ n := fun k hk e => hn (e ▸ hk)
  have old : ∀ {a : Addr} {c : Cell}, σ a = some c → a ≠ nd → a ≠ sc → a ≠ pr → ((((((σ.upd s1 (.dI [] 0)).upd sc (.dI (tabOf N sa ++ [(n, .ref s1)]) f1)).upd p1 (.dI [] 0)).upd pr (.dI (tabOf N pa ++ [(n, .ref p1)]) f2)).upd a1 (.dS [])).upd nd (.dI (tabOf N na ++ [(n, .ref a1)]) f3)) a = some c := fun {a c} e q1 q2 q3 => by
    rw [Sig.upd_ne q1, Sig.upd_ne (Sig.ne e h3), Sig.upd_ne q3, Sig.upd_ne (Sig.ne e h2), Sig.upd_ne q2, Sig.upd_ne (Sig.ne e h1)]; exact e
  have lastc : ∀ {P : Int → Prop}, (∀ k ∈ N, P k) → P n → ∀ k ∈ N ++ [n], P k := fun a b k hk => by
    rcases List.mem_append.mp hk with hk | hk
    · exact a k hk
    · rw [List.mem_singleton.mp hk]; exact b
  have fN : ∀ (f : Int → Addr) (a : Addr) (k : Int), k ∈ N → setF f n a k = f k := fun f a k hk => setF_ne (ne k hk)
  have nn := fun k hk => h.fresh k hk
  have fr : ∀ {a : Addr}, σ₀ a = Option.none → a ≠ nd ∨ True := fun _ => .inr trivial
  refine ⟨⟨f3, by rw [t]; exact Sig.upd_self⟩, ⟨f1, ?_⟩, ⟨f2, ?_⟩, lastc (fun k hk => ?_) ?_, lastc (fun k hk => ?_) ?_, lastc (fun k hk => ?_) ?_, lastc (fun k hk => ?_) ?_, ?_, ?_, ?_, ?_⟩
  · rw [t, Sig.upd_ne e1.symm, Sig.upd_ne sc3, Sig.upd_ne e3, Sig.upd_ne sc2]; exact Sig.upd_self
  · rw [t, Sig.upd_ne e2.symm, Sig.upd_ne pr3]; exact Sig.upd_self
  · rw [fN _ _ k hk]
    have q := h.cna k hk
    exact old q (fun e => by rw [e, hnd] at q; cases q) (fun e => by rw [e, hsc] at q; cases q) (fun e => by rw [e, hpr] at q; cases q)
  · rw [setF_self, Sig.upd_ne nd3.symm]; exact Sig.upd_self
  · rw [fN _ _ k hk]
    have q := h.csa k hk
    have l : N ≠ [] := List.ne_nil_of_mem hk
    have z : ∀ (f : Int → Addr), tabOf N f ≠ [] := fun f e => l (List.map_eq_nil_iff.mp e)
    exact old q (fun e => by rw [e, hnd] at q; simp at q; exact l q.1) (fun e => by rw [e, hsc] at q; simp at q; exact l q.1) (fun e => by rw [e, hpr] at q; simp at q; exact l q.1)
  · rw [setF_self, Sig.upd_ne nd1.symm, Sig.upd_ne d2.symm, Sig.upd_ne pr1.symm, Sig.upd_ne d1.symm, Sig.upd_ne sc1.symm]; exact Sig.upd_self
  · rw [fN _ _ k hk]
    have q := h.cpa k hk
    have l : N ≠ [] := List.ne_nil_of_mem hk
    exact old q (fun e => by rw [e, hnd] at q; simp at q; exact l q.1) (fun e => by rw [e, hsc] at q; simp at q; exact l q.1) (fun e => by rw [e, hpr] at q; simp at q; exact l q.1)
  · rw [setF_self, Sig.upd_ne nd2.symm, Sig.upd_ne d3.symm, Sig.upd_ne pr2.symm]; exact Sig.upd_self
  · rw [fN _ _ k hk, fN _ _ k hk, fN _ _ k hk]; exact h.fresh k hk
  · rw [setF_self, setF_self, setF_self]; exact ⟨h.none h3, h.none h1, h.none h2⟩
  · refine lastc (fun k hk => lastc (fun j hj => ?_) ?_) (lastc (fun j hj => ?_) fun _ => rfl)
    · rw [fN _ _ k hk, fN _ _ j hj]; exact h.sinj k hk j hj
    · rw [fN _ _ k hk, setF_self]; intro e; have := h.csa k hk; rw [e, h1] at this; cases this
    · rw [fN _ _ j hj, setF_self]; intro e; have := h.csa j hj; rw [← e, h1] at this; cases this
  · refine lastc (fun k hk => lastc (fun j hj => ?_) ?_) (lastc (fun j hj => ?_) fun _ => rfl)
    · rw [fN _ _ k hk, fN _ _ j hj]; exact h.pinj k hk j hj
    · rw [fN _ _ k hk, setF_self]; intro e; have := h.cpa k hk; rw [e, h2] at this; cases this
    · rw [fN _ _ j hj, setF_self]; intro e; have := h.cpa j hj; rw [← e, h2] at this; cases this
  · refine lastc (fun k hk => lastc (fun j hj => ?_) ?_) (lastc (fun j hj => ?_) ?_)
    · rw [fN _ _ k hk, fN _ _ j hj]; exact h.sp k hk j hj
    · rw [fN _ _ k hk, setF_self]; intro e; have := h.csa k hk; rw [e, h2] at this; cases this
    · rw [fN _ _ j hj, setF_self]; intro e; have := h.cpa j hj; rw [← e, h1] at this; cases this
    · rw [setF_self, setF_self]; exact d1.symm
  · refine Sig.But.upd (Sig.But.new (Sig.But.upd (Sig.But.new (Sig.But.upd (Sig.But.new h.but ?_) (by simp)) ?_) (by simp)) ?_) (by simp)
    · exact h.none h1
    · exact h.none h2
    · exact h.none h3
section
variable {B : Bd} {φ : Phi} {A : Around} {σ : Sig} {E : Value → Shared → Prop}
theorem addnodes_spec {x d nd sc pr l : Addr} {kvs : List (Str × Val)} {out : Bool} {N : List Int} {e1 e2 e3 : Nat} {Q : Val → Sig → Prop} (hA : AOk A 3)
    (hx : σ x = some (.inst 676 d)) (hd : σ d = some (.dD kvs out)) (hnode : (Str.ofString "_node", Val.ref nd) ∈ kvs) (hsucc : (Str.ofString "_succ", Val.ref sc) ∈ kvs) (hpred : (Str.ofString "_pred", Val.ref pr) ∈ kvs)
    (hnf1 : Str.ofString "adjlist_inner_dict_factory" ∉ kvs.map (·.1)) (hnf2 : Str.ofString "node_attr_dict_factory" ∉ kvs.map (·.1)) (hl : σ l = some (.list (N.map Val.int)))
    (hnd : σ nd = some (.dI [] e1)) (hsc : σ sc = some (.dI [] e2)) (hpr : σ pr = some (.dI [] e3)) (ne1 : nd ≠ sc) (ne2 : nd ≠ pr) (ne3 : sc ≠ pr) (hN : N.Nodup) (hz : N.length ≤ 100)
    (q : ∀ na sa pa σ', NodesAt σ σ' nd sc pr N na sa pa → Q .none σ') :
    Cl B φ A (.ref 593) [.ref x, .ref l] [] σ Q E := by
  refine Cl.defC (k := 2) (ls := [Str.ofString "self", Str.ofString "nodes_for_adding", Str.ofString "attr", Str.ofString "n", Str.ofString "newnode", Str.ofString "newdict", Str.ofString "ndict"]) (gl := []) hA (fun s S => ⟨S.kin _ _ rfl, codeRec_of S.kin (by kernel_rfl)⟩) rfl rfl (by kernel_rfl) (by exact List.nodup_nil) (by walk_at "gl") ?_
  intro us ks hus hk s F S
  obtain ⟨a, b₁, rfl, ha, hb1⟩ := two_arg hus
  obtain rfl := no_kw hk
  show wpAny _ _ (alloc { cls := .type "dict", data := .dict #[] } >>= _) _ _ _
  refine wpAny_bind (wpAny_alloc ?_)
  obtain ⟨S₂, hfr⟩ := kwdict S
  refine wpAny_pure ⟨_, S₂, ?_⟩
  intro env A' E' as hA' eA eE hE hlen hfr'
  obtain rfl : as = [] := List.length_eq_zero_iff.mp hlen
  refine .inl ⟨_, .head, .inl ⟨_, .tail .head, .inl ⟨_, .tail (.tail .head), BindK.nil ?_⟩⟩⟩
  show Es B φ A' ⟨env, [], []⟩ [(Str.ofString "self", some (er a)), (Str.ofString "nodes_for_adding", some (er b₁)), (Str.ofString "attr", some (.ref s.heap.objs.size)), (Str.ofString "n", none), (Str.ofString "newnode", none), (Str.ofString "newdict", none), (Str.ofString "ndict", none)] (bodyOf B.w 593) (σ.upd s.heap.objs.size (Cell.dS [])) _ E'
  rw [ha, hb1]
  generalize s.heap.objs.size = at_ at hfr ⊢
  clear hus hk S S₂ hfr' eA eE hlen hA F
  have xa : x ≠ at_ := Sig.ne hx hfr
  have da : d ≠ at_ := Sig.ne hd hfr
  have la : l ≠ at_ := Sig.ne hl hfr
  have keep : ∀ {σ'} {a : Addr} {c : Cell}, (σ.upd at_ (Cell.dS [])).But σ' [nd, sc, pr] → (σ.upd at_ (Cell.dS [])) a = some c → (∀ kv ep, c ≠ .dI kv ep) → σ' a = some c := fun {σ' a c} h e n => by
    refine h a c e fun m => ?_
    simp only [List.mem_cons, List.not_mem_nil, or_false] at m
    rcases m with rfl | rfl | rfl
    · rw [Sig.upd_ne (Sig.ne hnd hfr), hnd] at e; cases e; exact n _ _ rfl
    · rw [Sig.upd_ne (Sig.ne hsc hfr), hsc] at e; cases e; exact n _ _ rfl
    · rw [Sig.upd_ne (Sig.ne hpr hfr), hpr] at e; cases e; exact n _ _ rfl
  refine Es.cons (Ex.for (vs := N.map Val.int) (R := fun τ => τ l = some (.list (N.map Val.int))) (fun i m' τ => (∃ o1 o2 o3, m' = [(Str.ofString "self", some (.ref x)), (Str.ofString "nodes_for_adding", some (.ref l)), (Str.ofString "attr", some (.ref at_)), (Str.ofString "n", o1), (Str.ofString "newnode", o2), (Str.ofString "newdict", o3), (Str.ofString "ndict", none)]) ∧
      ∃ na sa pa, NodesAt (σ.upd at_ (Cell.dS [])) τ nd sc pr (N.take i) na sa pa) hE ?_ ?_ ?_ ?_)
  · refine Ev.loc (by walk_at "mem") (It.list ((Sig.upd_ne la).trans hl) ⟨⟨_, _, _, rfl⟩, fun _ => 0, fun _ => 0, fun _ => 0, ?_⟩)
    have z : ∀ {P : Int → Prop}, ∀ n ∈ N.take 0, P n := fun n h => by simp at h
    exact ⟨⟨e1, (Sig.upd_ne (Sig.ne hnd hfr)).trans hnd⟩, ⟨e2, (Sig.upd_ne (Sig.ne hsc hfr)).trans hsc⟩, ⟨e3, (Sig.upd_ne (Sig.ne hpr hfr)).trans hpr⟩, z, z, z, z, z, z, z, Sig.But.refl⟩
  · rintro i m' τ ⟨_, na, sa, pa, h⟩
    exact keep h.but ((Sig.upd_ne la).trans hl) fun _ _ e => nomatch e
  · rintro i y m' τ it c hc hy ⟨⟨o1, o2, o3, rfl⟩, na, sa, pa, h⟩
    obtain ⟨n, hn, rfl⟩ : ∃ n, N[i]? = some n ∧ Val.int n = y := by
      rw [List.getElem?_map] at hy
      cases e : N[i]? with
      | none => rw [e] at hy; cases hy
      | some n => rw [e] at hy; cases hy; exact ⟨n, rfl, rfl⟩
    have hi : i < N.length := (List.getElem?_eq_some_iff.mp hn).1
    have nn : n ∉ N.take i := fun m => by
      obtain ⟨j, hj, e⟩ := List.mem_iff_getElem.mp m
      rw [List.getElem_take] at e
      have hj' : j < i := by rw [List.length_take] at hj; omega
      have e' : N[j] = N[i] := by rw [e]; exact ((List.getElem?_eq_some_iff.mp hn).2).symm
      exact List.pairwise_iff_getElem.mp hN j i (by omega) hi hj' e'
    have tk : N.take (i + 1) = N.take i ++ [n] := by rw [List.take_add_one, hn]; rfl
    have hx' : τ x = some (.inst 676 d) := keep h.but ((Sig.upd_ne xa).trans hx) fun _ _ e => nomatch e
    have hd' : τ d = some (.dD kvs out) := keep h.but ((Sig.upd_ne da).trans hd) fun _ _ e => nomatch e
    have ha' : τ at_ = some (.dS []) := keep h.but Sig.upd_self fun _ _ e => nomatch e
    obtain ⟨g1, hnd'⟩ := h.cnd
    obtain ⟨g2, hsc'⟩ := h.csc
    obtain ⟨g3, hpr'⟩ := h.cpr
    have zl : ∀ f, (tabOf (N.take i) f).length ≤ 1000 := fun f => by rw [List.length_map, List.length_take]; omega
    have zn : ∀ f, n ∉ (tabOf (N.take i) f).map (·.1) := fun f => by rw [tabOf_keys]; exact nn
    refine ⟨_, by walk_at "sto", ?_⟩
    refine Es.cons (Ex.try (Es.cons (Ex.asg (Ev.cmp (Ev.loc (by walk_at "mem") (Ev.attr (Ev.loc (by walk_at "mem") (Ga.attr ga_node hx' hd' hnode (Cm.notInI hnd' ?_)))))))))
    rw [decide_eq_false (zn na), Bool.not_false]
    walk_at "stok"
    refine Seq.next (Es.cons (Ex.asg (Ev.loc (by walk_at "mem") ?_)))
    walk_at "stok"
    refine Seq.next (Es.nil (Seq.next ?_))
    refine Es.cons (Ex.ifs (Bt.val (Ev.loc (by walk_at "mem") (Tr.bool (tT ?_)))))
    refine Es.cons (Ex.ifs (Bt.cmp (Ev.loc (by walk_at "mem") (Ev.none (Cm.isNoneF (by intro e; cases e) (Tr.bool (tF (Es.nil (Seq.next ?_)))))))))
    refine Es.cons (Ex.asgSub (Ev.methG m_inner (Ev.loc (by walk_at "mem") ⟨_, d, kvs, out, rfl, hx', hd', hnf1, El.nil (Ek.nil (fact_inner (by walk_at "aok") ?_))⟩)))
    intro s1 hs1
    have xs : x ≠ s1 := Sig.ne hx' hs1
    have ds : d ≠ s1 := Sig.ne hd' hs1
    have ats : at_ ≠ s1 := Sig.ne ha' hs1
    have nds : nd ≠ s1 := Sig.ne hnd' hs1
    have scs : sc ≠ s1 := Sig.ne hsc' hs1
    have prs : pr ≠ s1 := Sig.ne hpr' hs1
    have xsc : x ≠ sc := fun e => by rw [e, hsc'] at hx'; cases hx'
    have xpr : x ≠ pr := fun e => by rw [e, hpr'] at hx'; cases hx'
    have xnd : x ≠ nd := fun e => by rw [e, hnd'] at hx'; cases hx'
    have dsc : d ≠ sc := fun e => by rw [e, hsc'] at hd'; cases hd'
    have dpr : d ≠ pr := fun e => by rw [e, hpr'] at hd'; cases hd'
    have dnd : d ≠ nd := fun e => by rw [e, hnd'] at hd'; cases hd'
    have asc : at_ ≠ sc := fun e => by rw [e, hsc'] at ha'; cases ha'
    have apr : at_ ≠ pr := fun e => by rw [e, hpr'] at ha'; cases ha'
    have and_ : at_ ≠ nd := fun e => by rw [e, hnd'] at ha'; cases ha'
    refine Ev.attr (Ev.loc (by walk_at "mem") (Ga.attr ga_succ (d := d) (kvs := kvs) (out := out) (a := sc) (by walk_at "look") (by walk_at "look") hsucc (Ev.loc (by walk_at "mem") (Si.dIn (kvs := tabOf (N.take i) sa) (by walk_at "look") (zl _) (zn _) fun f1 => ?_))))
    refine Seq.next (Es.cons (Ex.asgSub (Ev.methG m_inner (Ev.loc (by walk_at "mem") ⟨_, d, kvs, out, rfl, by walk_at "look", by walk_at "look", hnf1, El.nil (Ek.nil (fact_inner (by walk_at "aok") ?_))⟩))))
    intro p1 hp1
    obtain ⟨p2, hp1⟩ := Sig.upd_none hp1
    obtain ⟨p3, hp1⟩ := Sig.upd_none hp1
    have xp : x ≠ p1 := Sig.ne hx' hp1
    have dp : d ≠ p1 := Sig.ne hd' hp1
    have atp : at_ ≠ p1 := Sig.ne ha' hp1
    have ndp : nd ≠ p1 := Sig.ne hnd' hp1
    have prp : pr ≠ p1 := Sig.ne hpr' hp1
    refine Ev.attr (Ev.loc (by walk_at "mem") (Ga.attr ga_pred (d := d) (kvs := kvs) (out := out) (a := pr) (by walk_at "look") (by walk_at "look") hpred (Ev.loc (by walk_at "mem") (Si.dIn (kvs := tabOf (N.take i) pa) (by walk_at "look") (zl _) (zn _) fun f2 => ?_))))
    refine Seq.next (Es.cons (Ex.asgSub (Ev.methG m_nattr (Ev.loc (by walk_at "mem") ⟨_, d, kvs, out, rfl, by walk_at "look", by walk_at "look", hnf2, El.nil (Ek.nil (fact_nattr (by walk_at "aok") ?_))⟩))))
    intro a1 ha1
    obtain ⟨q2, ha1⟩ := Sig.upd_none ha1
    obtain ⟨q3, ha1⟩ := Sig.upd_none ha1
    obtain ⟨q4, ha1⟩ := Sig.upd_none ha1
    obtain ⟨q5, ha1⟩ := Sig.upd_none ha1
    have xq : x ≠ a1 := Sig.ne hx' ha1
    have dq : d ≠ a1 := Sig.ne hd' ha1
    have atq : at_ ≠ a1 := Sig.ne ha' ha1
    have ndq : nd ≠ a1 := Sig.ne hnd' ha1
    refine Ev.attr (Ev.loc (by walk_at "mem") (Ga.attr ga_node (d := d) (kvs := kvs) (out := out) (a := nd) (by walk_at "look") (by walk_at "look") hnode (Ev.loc (by walk_at "mem") (Si.dIn (kvs := tabOf (N.take i) na) (by walk_at "look") (zl _) (zn _) fun f3 => ?_))))
    refine Seq.next (Es.nil (Seq.next ?_))
    refine Es.cons (Ex.expr (Ev.meth (Ev.sub (Ev.attr (Ev.loc (by walk_at "mem") (Ga.attr ga_node (d := d) (kvs := kvs) (out := out) (a := nd) (by walk_at "look") (by walk_at "look") hnode (Ev.loc (by walk_at "mem") (Su.dI (d := nd) (kvs := tabOf (N.take i) na ++ [(n, Val.ref a1)]) (ep := f3) Sig.upd_self (List.mem_append_right _ (List.mem_singleton.mpr rfl)) ?_))))))))
    refine Gm.dUpdate (kvs := []) (by walk_at "look") (El.cons (Ev.loc (by walk_at "mem") (El.nil (Ek.nil ⟨Kp.bi, Cl.dUpdateN (kvs := []) (by walk_at "look") (by walk_at "look") (by walk_at "ne") (by simp) (Seq.next (Es.nil ?_))⟩))))
    have hst := h.step (f1 := f1) (f2 := f2) (f3 := f3) nn hs1 hp1 ha1 p3 q5 q3 ne1 ne2 ne3
    rw [← tk] at hst
    exact ⟨⟨_, _, _, rfl⟩, _, _, _, hst⟩
  · rintro m' τ ⟨_, na, sa, pa, h⟩
    refine Seq.next (Es.nil (q na sa pa τ ?_))
    rw [List.length_map, List.take_length] at h
    exact { h with fresh := fun n hn => ⟨(Sig.upd_none (h.fresh n hn).1).2, (Sig.upd_none (h.fresh n hn).2.1).2, (Sig.upd_none (h.fresh n hn).2.2).2⟩, but := fun b c e n => h.but b c ((Sig.upd_ne (Sig.ne e hfr)).trans e) n }
end
section
variable {B : Bd} {φ : Phi} {A : Around} {σ : Sig} {E : Value → Shared → Prop}
theorem addnode_spec {x d nd sc pr : Addr} {kvs : List (Str × Val)} {out : Bool} {n : Int} {t1 t2 t3 : List (Int × Val)} {e1 e2 e3 : Nat} {Q : Val → Sig → Prop} (hA : AOk A 3)
    (hx : σ x = some (.inst 676 d)) (hd : σ d = some (.dD kvs out)) (hnode : (Str.ofString "_node", Val.ref nd) ∈ kvs) (hsucc : (Str.ofString "_succ", Val.ref sc) ∈ kvs) (hpred : (Str.ofString "_pred", Val.ref pr) ∈ kvs)
    (hnf1 : Str.ofString "adjlist_inner_dict_factory" ∉ kvs.map (·.1)) (hnf2 : Str.ofString "node_attr_dict_factory" ∉ kvs.map (·.1))
    (hnd' : σ nd = some (.dI t1 e1)) (hsc' : σ sc = some (.dI t2 e2)) (hpr' : σ pr = some (.dI t3 e3)) (ne1 : nd ≠ sc) (ne2 : nd ≠ pr) (ne3 : sc ≠ pr)
    (n1 : n ∉ t1.map (·.1)) (n2 : n ∉ t2.map (·.1)) (n3 : n ∉ t3.map (·.1)) (z1 : t1.length ≤ 900) (z2 : t2.length ≤ 900) (z3 : t3.length ≤ 900)
    (q : ∀ a ep σ', σ.But σ' [nd, sc, pr] → σ' nd = some (.dI (t1 ++ [(n, .ref a)]) ep) → Q .none σ') :
    Cl B φ A (.ref 586) [.ref x, .int n] [] σ Q E := by
  refine Cl.defC (k := 2) (ls := [Str.ofString "self", Str.ofString "node_for_adding", Str.ofString "attr", Str.ofString "attr_dict"]) (gl := []) hA (fun s S => ⟨S.kin _ _ rfl, codeRec_of S.kin (by kernel_rfl)⟩) rfl rfl (by kernel_rfl) (by exact List.nodup_nil) (by walk_at "gl") ?_
  intro us ks hus hk s F S
  obtain ⟨a, b₁, rfl, ha, hb1⟩ := two_arg hus
  obtain rfl := no_kw hk
  show wpAny _ _ (alloc { cls := .type "dict", data := .dict #[] } >>= _) _ _ _
  refine wpAny_bind (wpAny_alloc ?_)
  obtain ⟨S₂, hfr⟩ := kwdict S
  refine wpAny_pure ⟨_, S₂, ?_⟩
  intro env A' E' as hA' eA eE hE hlen hfr'
  obtain rfl : as = [] := List.length_eq_zero_iff.mp hlen
  refine .inl ⟨_, .head, .inl ⟨_, .tail .head, .inl ⟨_, .tail (.tail .head), BindK.nil ?_⟩⟩⟩
  show Es B φ A' ⟨env, [], []⟩ [(Str.ofString "self", some (er a)), (Str.ofString "node_for_adding", some (er b₁)), (Str.ofString "attr", some (.ref s.heap.objs.size)), (Str.ofString "attr_dict", none)] (bodyOf B.w 586) (σ.upd s.heap.objs.size (Cell.dS [])) _ E'
  rw [ha, hb1]
  generalize s.heap.objs.size = at_ at hfr ⊢
  clear hus hk S S₂ hfr' eA eE hlen hA F
  have xa : x ≠ at_ := Sig.ne hx hfr
  have da : d ≠ at_ := Sig.ne hd hfr
  have nda : nd ≠ at_ := Sig.ne hnd' hfr
  have sca : sc ≠ at_ := Sig.ne hsc' hfr
  have pra : pr ≠ at_ := Sig.ne hpr' hfr
  refine Es.cons (Ex.ifs (Bt.cmp (Ev.loc (by walk_at "mem") (Ev.attr (Ev.loc (by walk_at "mem") (Ga.attr ga_succ (d := d) (kvs := kvs) (out := out) (a := sc) (by walk_at "look") (by walk_at "look") hsucc (Cm.notInI (kvs := t2) (ep := e2) (by walk_at "look") ?_)))))))
  rw [decide_eq_false n2, Bool.not_false]
  refine Tr.bool (tT ?_)
  refine Es.cons (Ex.ifs (Bt.cmp (Ev.loc (by walk_at "mem") (Ev.none (Cm.isNoneF (by intro e; cases e) (Tr.bool (tF (Es.nil (Seq.next ?_)))))))))
  refine Es.cons (Ex.asgSub (Ev.methG m_inner (Ev.loc (by walk_at "mem") ⟨_, d, kvs, out, rfl, by walk_at "look", by walk_at "look", hnf1, El.nil (Ek.nil (fact_inner (by walk_at "aok") ?_))⟩)))
  intro s1 hs1
  obtain ⟨s0, hs1⟩ := Sig.upd_none hs1
  have s0' := s0.symm
  have xs : x ≠ s1 := Sig.ne hx hs1
  have ds : d ≠ s1 := Sig.ne hd hs1
  have nds : nd ≠ s1 := Sig.ne hnd' hs1
  have scs : sc ≠ s1 := Sig.ne hsc' hs1
  have prs : pr ≠ s1 := Sig.ne hpr' hs1
  have xsc : x ≠ sc := fun e => by rw [e, hsc'] at hx; cases hx
  have xpr : x ≠ pr := fun e => by rw [e, hpr'] at hx; cases hx
  have xnd : x ≠ nd := fun e => by rw [e, hnd'] at hx; cases hx
  have dsc : d ≠ sc := fun e => by rw [e, hsc'] at hd; cases hd
  have dpr : d ≠ pr := fun e => by rw [e, hpr'] at hd; cases hd
  have dnd : d ≠ nd := fun e => by rw [e, hnd'] at hd; cases hd
  refine Ev.attr (Ev.loc (by walk_at "mem") (Ga.attr ga_succ (d := d) (kvs := kvs) (out := out) (a := sc) (by walk_at "look") (by walk_at "look") hsucc (Ev.loc (by walk_at "mem") (Si.dIn (kvs := t2) (ep := e2) (by walk_at "look") (by omega) n2 fun f1 => ?_))))
  refine Seq.next (Es.cons (Ex.asgSub (Ev.methG m_inner (Ev.loc (by walk_at "mem") ⟨_, d, kvs, out, rfl, by walk_at "look", by walk_at "look", hnf1, El.nil (Ek.nil (fact_inner (by walk_at "aok") ?_))⟩))))
  intro p1 hp1
  obtain ⟨p2, hp1⟩ := Sig.upd_none hp1
  obtain ⟨p3, hp1⟩ := Sig.upd_none hp1
  obtain ⟨p4, hp1⟩ := Sig.upd_none hp1
  have xp : x ≠ p1 := Sig.ne hx hp1
  have dp : d ≠ p1 := Sig.ne hd hp1
  have ndp : nd ≠ p1 := Sig.ne hnd' hp1
  have prp : pr ≠ p1 := Sig.ne hpr' hp1
  refine Ev.attr (Ev.loc (by walk_at "mem") (Ga.attr ga_pred (d := d) (kvs := kvs) (out := out) (a := pr) (by walk_at "look") (by walk_at "look") hpred (Ev.loc (by walk_at "mem") (Si.dIn (kvs := t3) (ep := e3) (by walk_at "look") (by omega) n3 fun f2 => ?_))))
  refine Seq.next (Es.cons (Ex.asg2 (Ev.methG m_nattr (Ev.loc (by walk_at "mem") ⟨_, d, kvs, out, rfl, by walk_at "look", by walk_at "look", hnf2, El.nil (Ek.nil (fact_nattr (by walk_at "aok") ?_))⟩))))
  intro a1 ha1
  obtain ⟨q2, ha1⟩ := Sig.upd_none ha1
  obtain ⟨q3, ha1⟩ := Sig.upd_none ha1
  obtain ⟨q4, ha1⟩ := Sig.upd_none ha1
  obtain ⟨q5, ha1⟩ := Sig.upd_none ha1
  obtain ⟨q6, ha1⟩ := Sig.upd_none ha1
  have xq : x ≠ a1 := Sig.ne hx ha1
  have dq : d ≠ a1 := Sig.ne hd ha1
  have ndq : nd ≠ a1 := Sig.ne hnd' ha1
  refine As.name ⟨_, by walk_at "sto", As.sub (Ev.attr (Ev.loc (by walk_at "mem") (Ga.attr ga_node (d := d) (kvs := kvs) (out := out) (a := nd) (by walk_at "look") (by walk_at "look") hnode (Ev.loc (by walk_at "mem") (Si.dIn (kvs := t1) (ep := e1) (by walk_at "look") (by omega) n1 fun f3 => ?_)))))⟩
  have atn : at_ ≠ nd := nda.symm
  have atp : at_ ≠ pr := pra.symm
  have ats : at_ ≠ sc := sca.symm
  refine Seq.next (Es.cons (Ex.expr (Ev.meth (Ev.loc (by walk_at "mem") (Gm.dUpdate (kvs := []) (by walk_at "look") (El.cons (Ev.loc (by walk_at "mem") (El.nil (Ek.nil ⟨Kp.bi, Cl.dUpdateN (kvs := []) (by walk_at "look") (by walk_at "look") (by walk_at "ne") (by simp) (Seq.next (Es.nil (Seq.next (Es.nil ?_))))⟩)))))))))
  refine q a1 f3 _ ?_ Sig.upd_self
  refine Sig.But.upd (Sig.But.new (Sig.But.upd (Sig.But.new (Sig.But.upd (Sig.But.new (Sig.But.new Sig.But.refl ?_) ?_) (by simp)) ?_) (by simp)) ?_) (by simp) <;> assumption
end
noncomputable def setN {α : Type} (f : Nat → α) (n : Nat) (a : α) : Nat → α := fun k => if k = n then a else f k
theorem setN_self {α : Type} {f : Nat → α} {n : Nat} {a : α} : setN f n a n = a := if_pos rfl
theorem setN_ne {α : Type} {f : Nat → α} {n k : Nat} {a : α} (h : k ≠ n) : setN f n a k = f k := if_neg h
noncomputable def set2 {α : Type} (f : Nat → Nat → α) (i j : Nat) (a : α) : Nat → Nat → α := fun k l => if k = i ∧ l = j then a else f k l
theorem set2_self {α : Type} {f : Nat → Nat → α} {i j : Nat} {a : α} : set2 f i j a i j = a := if_pos ⟨rfl, rfl⟩
theorem set2_ne {α : Type} {f : Nat → Nat → α} {i j k l : Nat} {a : α} (h : ¬ (k = i ∧ l = j)) : set2 f i j a k l = f k l := if_neg h
/-- a row of n values -/
noncomputable abbrev vecOf (n : Nat) (f : Nat → Val) : List Val := (List.range n).map f
theorem vecOf_get {n i : Nat} {f : Nat → Val} (h : i < n) : (vecOf n f)[i]? = some (f i) := by
  rw [List.getElem?_map, List.getElem?_range h]; rfl
theorem vecOf_len {n : Nat} {f : Nat → Val} : (vecOf n f).length = n := by rw [List.length_map, List.length_range]
theorem vecOf_set {n i : Nat} {f : Nat → Val} {v : Val} : (vecOf n f).set i v = vecOf n (setN f i v) := by
  refine List.ext_getElem? fun k => ?_
  by_cases hk : k < n
  · rw [vecOf_get hk, List.getElem?_set, vecOf_len, vecOf_get hk]
    by_cases e : k = i
    · rw [e, setN_self, if_pos rfl, if_pos (e ▸ hk)]
    · rw [setN_ne e, if_neg fun h => e h.symm]
  · rw [List.getElem?_eq_none (by rw [List.length_set, vecOf_len]; omega), List.getElem?_eq_none (by rw [vecOf_len]; omega)]
theorem vecOf_congr {n : Nat} {f g : Nat → Val} (h : ∀ i, i < n → f i = g i) : vecOf n f = vecOf n g := List.map_congr_left fun i hi => h i (List.mem_range.mp hi)
/-- a square of numbers -/
structure MatAt (σ : Sig) (a : Addr) (n : Nat) (r : Nat → Addr) (M : Nat → Nat → Int) : Prop where
  top : σ a = some (.list (vecOf n fun i => .ref (r i)))
  row : ∀ i, i < n → σ (r i) = some (.list (vecOf n fun j => .int (M i j)))
theorem MatAt.keep {σ σ' : Sig} {a : Addr} {n : Nat} {r : Nat → Addr} {M : Nat → Nat → Int} (h : MatAt σ a n r M) (k : ∀ b vs, σ b = some (.list vs) → σ' b = some (.list vs)) : MatAt σ' a n r M :=
  ⟨k _ _ h.top, fun i hi => k _ _ (h.row i hi)⟩
/-- the places of a residual network -/
structure Net where
  n : Nat
  nm : Nat → Int
  x : Addr
  d : Addr
  g : Addr
  nd : Addr
  sc : Addr
  pr : Addr
  na : Nat → Addr
  sa : Nat → Addr
  pa : Nat → Addr
  ea : Nat → Nat → Addr
  S : Nat → List Nat
  P : Nat → List Nat
noncomputable def Net.tab (G : Net) (f : Nat → Addr) : List (Int × Val) := (List.range G.n).map fun i => (G.nm i, Val.ref (f i))
noncomputable def Net.row (G : Net) (l : List Nat) (f : Nat → Addr) : List (Int × Val) := l.map fun j => (G.nm j, Val.ref (f j))
noncomputable def edge (c f : Int) : Cell := .dS [(Str.ofString "capacity", .int c), (Str.ofString "flow", .int f)]
structure Net.Ok (G : Net) : Prop where
  le : G.n ≤ 10
  inj : ∀ i j, i < G.n → j < G.n → G.nm i = G.nm j → i = j
  sinj : ∀ i j, i < G.n → j < G.n → G.sa i = G.sa j → i = j
  pinj : ∀ i j, i < G.n → j < G.n → G.pa i = G.pa j → i = j
  sp : ∀ i j, i < G.n → j < G.n → G.sa i ≠ G.pa j
  st : ∀ i, i < G.n → G.sa i ≠ G.nd ∧ G.sa i ≠ G.sc ∧ G.sa i ≠ G.pr
  pt : ∀ i, i < G.n → G.pa i ≠ G.nd ∧ G.pa i ≠ G.sc ∧ G.pa i ≠ G.pr
  slt : ∀ i j, i < G.n → j ∈ G.S i → j < G.n
  ps : ∀ i j, i < G.n → j < G.n → (i ∈ G.P j ↔ j ∈ G.S i)
  plt : ∀ i j, j < G.n → i ∈ G.P j → i < G.n
  snd : ∀ i, i < G.n → (G.S i).Nodup
  pnd : ∀ i, i < G.n → (G.P i).Nodup
  einj : ∀ i j k l, i < G.n → k < G.n → j ∈ G.S i → l ∈ G.S k → G.ea i j = G.ea k l → i = k ∧ j = l
  eg : ∀ i j, i < G.n → j ∈ G.S i → G.ea i j ≠ G.g
structure Net.At (G : Net) (σ : Sig) (c f : Nat → Nat → Int) (gr kvs : List (Str × Val)) (out : Bool) : Prop where
  ok : G.Ok
  hx : σ G.x = some (.inst 676 G.d)
  hd : σ G.d = some (.dD (gdict G.g G.nd G.sc G.pr ++ kvs) out)
  hg : σ G.g = some (.dS gr)
  hnd : ∃ ep, σ G.nd = some (.dI (G.tab G.na) ep)
  hsc : ∃ ep, σ G.sc = some (.dI (G.tab G.sa) ep)
  hpr : ∃ ep, σ G.pr = some (.dI (G.tab G.pa) ep)
  hsa : ∀ i, i < G.n → ∃ ep, σ (G.sa i) = some (.dI (G.row (G.S i) (G.ea i)) ep)
  hpa : ∀ i, i < G.n → ∃ ep, σ (G.pa i) = some (.dI (G.row (G.P i) fun j => G.ea j i) ep)
  hea : ∀ i j, i < G.n → j ∈ G.S i → σ (G.ea i j) = some (edge (c i j) (f i j))
theorem Net.tab_mem {G : Net} {f : Nat → Addr} {i : Nat} (h : i < G.n) : (G.nm i, Val.ref (f i)) ∈ G.tab f := List.mem_map.mpr ⟨i, List.mem_range.mpr h, rfl⟩
theorem Net.row_mem {G : Net} {l : List Nat} {f : Nat → Addr} {i : Nat} (h : i ∈ l) : (G.nm i, Val.ref (f i)) ∈ G.row l f := List.mem_map.mpr ⟨i, h, rfl⟩
theorem Net.tab_len {G : Net} {f : Nat → Addr} : (G.tab f).length = G.n := by unfold Net.tab; rw [List.length_map, List.length_range]
theorem Net.row_len {G : Net} {l : List Nat} {f : Nat → Addr} : (G.row l f).length = l.length := by unfold Net.row; rw [List.length_map]
theorem Net.tab_key {G : Net} (ok : G.Ok) {f : Nat → Addr} {i : Nat} (h : i < G.n) : G.nm i ∈ (G.tab f).map (·.1) := List.mem_map_of_mem (f := (·.1)) (Net.tab_mem (f := f) h)
theorem Net.row_key {G : Net} (ok : G.Ok) {l : List Nat} {f : Nat → Addr} {i : Nat} (hi : i < G.n) (hl : ∀ j ∈ l, j < G.n) : G.nm i ∈ (G.row l f).map (·.1) ↔ i ∈ l := by
  constructor
  · intro h
    obtain ⟨p, hp, e⟩ := List.mem_map.mp h
    obtain ⟨j, hj, rfl⟩ := List.mem_map.mp hp
    have := ok.inj _ _ (hl j hj) hi e
    rwa [← this]
  · exact fun h => List.mem_map_of_mem (f := (·.1)) (Net.row_mem (f := f) h)
theorem nodup_len : ∀ (n : Nat) (l : List Nat), l.Nodup → (∀ j ∈ l, j < n) → l.length ≤ n
  | 0, [], _, _ => Nat.le_refl _
  | 0, a :: _, _, h => absurd (h a (.head _)) (Nat.not_lt_zero _)
  | n + 1, l, nd, h => by
    have e : (l.filter fun j => decide (j ≠ n)).length + 1 ≥ l.length := by
      clear h
      induction l with
      | nil => simp
      | cons a r ih =>
        have nd' := List.nodup_cons.mp nd
        by_cases ea : a = n
        · have : r.filter (fun j => decide (j ≠ n)) = r := List.filter_eq_self.mpr fun b hb => by
            have : b ≠ n := fun e => nd'.1 (by rw [ea, ← e]; exact hb)
            simp [this]
          rw [List.filter_cons, if_neg (by simp [ea]), this]; simp
        · rw [List.filter_cons, if_pos (by simp [ea])]
          have := ih nd'.2
          simp only [List.length_cons]; omega
    have := nodup_len n (l.filter fun j => decide (j ≠ n)) (nd.sublist List.filter_sublist) fun j hj => by
      obtain ⟨a, b⟩ := List.mem_filter.mp hj
      have h1 := h j a
      have h2 : j ≠ n := of_decide_eq_true b
      omega
    omega
theorem Net.Ok.s_le {G : Net} (ok : G.Ok) {i : Nat} (h : i < G.n) : (G.S i).length ≤ 10 := Nat.le_trans (nodup_len _ _ (ok.snd i h) fun j => ok.slt i j h) ok.le
theorem Net.Ok.p_le {G : Net} (ok : G.Ok) {i : Nat} (h : i < G.n) : (G.P i).length ≤ 10 := Nat.le_trans (nodup_len _ _ (ok.pnd i h) fun j => ok.plt j i h) ok.le
/-- what a network needs of the cells that are kept -/
theorem Net.At.keep {G : Net} {σ σ' : Sig} {c f : Nat → Nat → Int} {gr kvs : List (Str × Val)} {out : Bool} (h : G.At σ c f gr kvs out) {l : List Addr} (b : σ.But σ' l)
    (hl : ∀ a ∈ l, a ≠ G.x ∧ a ≠ G.d ∧ a ≠ G.g ∧ a ≠ G.nd ∧ a ≠ G.sc ∧ a ≠ G.pr ∧ (∀ i, i < G.n → a ≠ G.sa i ∧ a ≠ G.pa i) ∧ ∀ i j, i < G.n → j ∈ G.S i → a ≠ G.ea i j) : G.At σ' c f gr kvs out := by
  have k : ∀ {a : Addr} {c : Cell}, σ a = some c → (∀ b ∈ l, b ≠ a) → σ' a = some c := fun e n => b _ _ e fun m => n _ m rfl
  exact ⟨h.ok, k h.hx fun a ha => (hl a ha).1, k h.hd fun a ha => (hl a ha).2.1, k h.hg fun a ha => (hl a ha).2.2.1, let ⟨e, q⟩ := h.hnd; ⟨e, k q fun a ha => (hl a ha).2.2.2.1⟩, let ⟨e, q⟩ := h.hsc; ⟨e, k q fun a ha => (hl a ha).2.2.2.2.1⟩,
    let ⟨e, q⟩ := h.hpr; ⟨e, k q fun a ha => (hl a ha).2.2.2.2.2.1⟩, fun i hi => let ⟨e, q⟩ := h.hsa i hi; ⟨e, k q fun a ha => ((hl a ha).2.2.2.2.2.2.1 i hi).1⟩, fun i hi => let ⟨e, q⟩ := h.hpa i hi; ⟨e, k q fun a ha => ((hl a ha).2.2.2.2.2.2.1 i hi).2⟩,
    fun i j hi hj => k (h.hea i j hi hj) fun a ha => (hl a ha).2.2.2.2.2.2.2 i j hi hj⟩
theorem Net.At.keep0 {G : Net} {σ σ' : Sig} {c f : Nat → Nat → Int} {gr kvs : List (Str × Val)} {out : Bool} (h : G.At σ c f gr kvs out) (b : σ.But σ' []) : G.At σ' c f gr kvs out := h.keep b fun _ h => nomatch h
/-- an edge more -/
noncomputable def Net.add (G : Net) (u v : Nat) (e : Addr) : Net := { G with S := setN G.S u (G.S u ++ [v]), P := setN G.P v (G.P v ++ [u]), ea := set2 G.ea u v e }
theorem Net.At.add {G : Net} {σ σ' : Sig} {c f : Nat → Nat → Int} {gr kvs : List (Str × Val)} {out : Bool} (h : G.At σ c f gr kvs out) {u v : Nat} {e : Addr} {ep ep' : Nat} (hu : u < G.n) (hv : v < G.n) (hn : v ∉ G.S u) (he : σ e = none)
    (b : σ.But σ' [G.sa u, G.pa v]) (h1 : σ' (G.sa u) = some (.dI (G.row (G.S u) (G.ea u) ++ [(G.nm v, .ref e)]) ep)) (h2 : σ' (G.pa v) = some (.dI ((G.row (G.P v) fun j => G.ea j v) ++ [(G.nm u, .ref e)]) ep'))
    (h3 : σ' e = some (edge (c u v) (f u v))) : (G.add u v e).At σ' c f gr kvs out := by
  have ok := h.ok
  have hn' : u ∉ G.P v := fun m => hn ((ok.ps u v hu hv).mp m)
  have k : ∀ {a : Addr} {c : Cell}, σ a = some c → a ≠ G.sa u → a ≠ G.pa v → σ' a = some c := fun e n1 n2 => b _ _ e (by simp [n1, n2])
  obtain ⟨e1, q1⟩ := h.hsa u hu
  obtain ⟨e2, q2⟩ := h.hpa v hv
  have diff : ∀ {a : Addr} {c : Cell}, σ a = some c → (∀ kv ep, c ≠ .dI kv ep) → a ≠ G.sa u ∧ a ≠ G.pa v := fun {a c} q n => ⟨fun e => by rw [e, q1] at q; cases q; exact n _ _ rfl, fun e => by rw [e, q2] at q; cases q; exact n _ _ rfl⟩
  have kk : ∀ {a : Addr} {c : Cell}, σ a = some c → (∀ kv ep, c ≠ .dI kv ep) → σ' a = some c := fun q n => k q (diff q n).1 (diff q n).2
  have eold : ∀ i j, i < G.n → j ∈ G.S i → G.ea i j ≠ e := fun i j hi hj x => by have := h.hea i j hi hj; rw [x, he] at this; cases this
  have ge : e ≠ G.g := fun x => by have := h.hg; rw [← x, he] at this; cases this
  have mS : ∀ {i j}, j ∈ (G.add u v e).S i → j ∈ G.S i ∨ (i = u ∧ j = v) := fun {i j} hj => by
    change j ∈ setN G.S u (G.S u ++ [v]) i at hj
    by_cases e : i = u
    · subst e; rw [setN_self, List.mem_append, List.mem_singleton] at hj
      rcases hj with hj | hj
      · exact .inl hj
      · exact .inr ⟨rfl, hj⟩
    · rw [setN_ne e] at hj; exact .inl hj
  have mS' : ∀ {i j}, j ∈ G.S i ∨ (i = u ∧ j = v) → j ∈ (G.add u v e).S i := fun {i j} hj => by
    show j ∈ setN G.S u (G.S u ++ [v]) i
    by_cases e : i = u
    · subst e; rw [setN_self, List.mem_append, List.mem_singleton]
      exact hj.imp id fun z => z.2
    · rw [setN_ne e]; exact hj.resolve_right fun z => e z.1
  have mP : ∀ {i j}, i ∈ (G.add u v e).P j → i ∈ G.P j ∨ (i = u ∧ j = v) := fun {i j} hj => by
    change i ∈ setN G.P v (G.P v ++ [u]) j at hj
    by_cases e : j = v
    · subst e; rw [setN_self, List.mem_append, List.mem_singleton] at hj
      rcases hj with hj | hj
      · exact .inl hj
      · exact .inr ⟨hj, rfl⟩
    · rw [setN_ne e] at hj; exact .inl hj
  have mP' : ∀ {i j}, i ∈ G.P j ∨ (i = u ∧ j = v) → i ∈ (G.add u v e).P j := fun {i j} hj => by
    show i ∈ setN G.P v (G.P v ++ [u]) j
    by_cases e : j = v
    · subst e; rw [setN_self, List.mem_append, List.mem_singleton]
      exact hj.imp id fun z => z.1
    · rw [setN_ne e]; exact hj.resolve_right fun z => e z.2
  have eaS : ∀ {i j}, i < G.n → j ∈ G.S i → (G.add u v e).ea i j = G.ea i j := fun {i j} hi hj => set2_ne (fun z => hn (by rw [← z.1, ← z.2]; exact hj))
  have eaN : (G.add u v e).ea u v = e := set2_self
  have ndS : ∀ i, i < G.n → ((G.add u v e).S i).Nodup := fun i hi => by
    show (setN G.S u (G.S u ++ [v]) i).Nodup
    by_cases e : i = u
    · subst e; rw [setN_self]
      exact List.nodup_append.mpr ⟨ok.snd i hi, by simp, fun a ha b hb x => by rw [List.mem_singleton.mp hb] at x; exact hn (x ▸ ha)⟩
    · rw [setN_ne e]; exact ok.snd i hi
  have ndP : ∀ i, i < G.n → ((G.add u v e).P i).Nodup := fun i hi => by
    show (setN G.P v (G.P v ++ [u]) i).Nodup
    by_cases e : i = v
    · subst e; rw [setN_self]
      exact List.nodup_append.mpr ⟨ok.pnd i hi, by simp, fun a ha b hb x => by rw [List.mem_singleton.mp hb] at x; exact hn' (x ▸ ha)⟩
    · rw [setN_ne e]; exact ok.pnd i hi
  refine ⟨⟨ok.le, ok.inj, ok.sinj, ok.pinj, ok.sp, ok.st, ok.pt, fun i j hi hj => ?_, fun i j hi hj => ?_, fun i j hj hi => ?_, ndS, ndP, fun i j k l hi hk hj hl x => ?_, fun i j hi hj => ?_⟩, kk h.hx (by intros; exact fun e => nomatch e), kk h.hd (by intros; exact fun e => nomatch e), kk h.hg (by intros; exact fun e => nomatch e),
    let ⟨ep, q⟩ := h.hnd; ⟨ep, k q (ok.st u hu).1.symm (ok.pt v hv).1.symm⟩, let ⟨ep, q⟩ := h.hsc; ⟨ep, k q (ok.st u hu).2.1.symm (ok.pt v hv).2.1.symm⟩, let ⟨ep, q⟩ := h.hpr; ⟨ep, k q (ok.st u hu).2.2.symm (ok.pt v hv).2.2.symm⟩, fun i hi => ?_, fun i hi => ?_, fun i j hi hj => ?_⟩
  · rcases mS hj with hj | ⟨rfl, rfl⟩
    · exact ok.slt i j hi hj
    · exact hv
  · exact ⟨fun z => mS' ((mP z).imp (ok.ps i j hi hj).mp id), fun z => mP' ((mS z).imp (ok.ps i j hi hj).mpr id)⟩
  · rcases mP hi with hi | ⟨rfl, rfl⟩
    · exact ok.plt i j hj hi
    · exact hu
  · rcases mS hj with hj1 | ⟨z1, z2⟩ <;> rcases mS hl with hl1 | ⟨z3, z4⟩
    · rw [eaS hi hj1, eaS hk hl1] at x; exact ok.einj _ _ _ _ hi hk hj1 hl1 x
    · rw [eaS hi hj1, z3, z4, eaN] at x; exact absurd x (eold _ _ hi hj1)
    · rw [eaS hk hl1, z1, z2, eaN] at x; exact absurd x.symm (eold _ _ hk hl1)
    · exact ⟨z1.trans z3.symm, z2.trans z4.symm⟩
  · rcases mS hj with hj | ⟨rfl, rfl⟩
    · rw [eaS hi hj]; exact ok.eg i j hi hj
    · rw [eaN]; exact ge
  · by_cases x : i = u
    · subst x
      refine ⟨ep, h1.trans ?_⟩
      have a1 : (G.add i v e).S i = G.S i ++ [v] := setN_self
      rw [a1]
      unfold Net.row
      rw [List.map_append, List.map_singleton, eaN]
      congr 3
      exact List.map_congr_left fun j hj => by show _ = (G.nm j, Val.ref _); rw [eaS hi hj]
    · obtain ⟨e3, q3⟩ := h.hsa i hi
      refine ⟨e3, (k q3 (fun z => x (ok.sinj _ _ hi hu z)) (ok.sp i v hi hv)).trans ?_⟩
      have a1 : (G.add u v e).S i = G.S i := setN_ne x
      rw [a1]
      unfold Net.row
      congr 2
      exact List.map_congr_left fun j hj => by show _ = (G.nm j, Val.ref _); rw [eaS hi hj]
  · by_cases x : i = v
    · subst x
      refine ⟨ep', h2.trans ?_⟩
      have a1 : (G.add u i e).P i = G.P i ++ [u] := setN_self
      rw [a1]
      unfold Net.row
      rw [List.map_append, List.map_singleton]
      dsimp only
      rw [eaN]
      congr 3
      exact List.map_congr_left fun j hj => by
        have hj' := ok.plt j i hi hj
        show _ = (G.nm j, Val.ref ((G.add _ _ e).ea j i)); rw [eaS hj' ((ok.ps j i hj' hi).mp hj)]
    · obtain ⟨e3, q3⟩ := h.hpa i hi
      refine ⟨e3, (k q3 (fun z => ok.sp u i hu hi z.symm) (fun z => x (ok.pinj _ _ hi hv z))).trans ?_⟩
      have a1 : (G.add u v e).P i = G.P i := setN_ne x
      rw [a1]
      unfold Net.row
      congr 2
      exact List.map_congr_left fun j hj => by
        have hj' := ok.plt j i hi hj
        show _ = (G.nm j, Val.ref ((G.add _ _ e).ea j i)); rw [eaS hj' ((ok.ps j i hj' hi).mp hj)]
  · rcases mS hj with hj | ⟨rfl, rfl⟩
    · rw [eaS hi hj]; exact kk (h.hea i j hi hj) fun _ _ e => nomatch e
    · rw [eaN]; exact h3
theorem Sig.But.past {σ τ υ : Sig} {l : List Addr} (h : σ.But τ []) (h' : τ.But υ l) (hl : ∀ a ∈ l, σ a = none) : σ.But υ [] := fun b d e _ =>
  h' b d (h b d e List.not_mem_nil) fun m => by rw [hl b m] at e; cases e
section
variable {B : Bd} {φ : Phi} {A : Around} {σ : Sig} {E : Value → Shared → Prop}
theorem makes676 {w : World} : makesIn (K0 w) 676 = true := by kernel_rfl
theorem init676 {w : World} : findIn (K0 w) (.ref 676) "__init__" = some (some (.ref 559)) := by kernel_rfl
theorem type559 {w : World} : typeIn (K0 w) (.ref 559) = some (.type "function") := by kernel_rfl
theorem kept676 {w : World} : keepIn (K0 w) (.ref 676) = true := by kernel_rfl
/-- a new graph -/
structure NewG (σ σ' : Sig) (x d g nd sc pr : Addr) (more : List (Str × Val)) : Prop where
  fx : σ x = none
  fd : σ d = none
  fg : σ g = none
  fn : σ nd = none
  fs : σ sc = none
  fp : σ pr = none
  e1 : nd ≠ sc
  e2 : nd ≠ pr
  e3 : sc ≠ pr
  but : σ.But σ' []
  hx : σ' x = some (.inst 676 d)
  hd : σ' d = some (.dD (gdict g nd sc pr) false)
  hg : σ' g = some (.dS more)
  hn : σ' nd = some (.dI [] 0)
  hs : σ' sc = some (.dI [] 0)
  hp : σ' pr = some (.dI [] 0)
theorem newG_of {σ' : Sig} {x d g nd sc pr : Addr} {more : List (Str × Val)} (hx : σ x = none) (hd : σ d = none) (hxd : x ≠ d)
    (hg : ((σ.upd d (.dD [] false)).upd x (.inst 676 d)) g = none) (hn : ((σ.upd d (.dD [] false)).upd x (.inst 676 d)) nd = none) (hs : ((σ.upd d (.dD [] false)).upd x (.inst 676 d)) sc = none) (hp : ((σ.upd d (.dD [] false)).upd x (.inst 676 d)) pr = none)
    (e1 : nd ≠ sc) (e2 : nd ≠ pr) (e3 : sc ≠ pr) (bt : ((σ.upd d (.dD [] false)).upd x (.inst 676 d)).But σ' [d]) (h1 : σ' d = some (.dD (gdict g nd sc pr) false)) (h2 : σ' g = some (.dS more)) (h3 : σ' nd = some (.dI [] 0)) (h4 : σ' sc = some (.dI [] 0)) (h5 : σ' pr = some (.dI [] 0)) :
    NewG σ σ' x d g nd sc pr more := by
  refine ⟨hx, hd, (Sig.upd_none (Sig.upd_none hg).2).2, (Sig.upd_none (Sig.upd_none hn).2).2, (Sig.upd_none (Sig.upd_none hs).2).2, (Sig.upd_none (Sig.upd_none hp).2).2, e1, e2, e3, ?_, bt x _ Sig.upd_self (by simp [hxd]), h1, h2, h3, h4, h5⟩
  refine Sig.But.past (τ := (σ.upd d (.dD [] false)).upd x (.inst 676 d)) (Sig.But.new (Sig.But.new Sig.But.refl hd) hx) bt (fun a ha => ?_)
  rw [List.mem_singleton.mp ha]; exact hd
theorem digraph_inf {big : Int} {Q : Val → Sig → Prop} (hA : AOk A 4) (q : ∀ x d g nd sc pr σ', NewG σ σ' x d g nd sc pr [(Str.ofString "inf", .int big)] → Q (.ref x) σ') : Cl B φ A (.ref 676) [] [(Str.ofString "inf", .int big)] σ Q E := by
  refine Cl.cls makes676 init676 type559 fun x d hx hd hxd => ?_
  refine init_inf (hA.make (by decide)) Sig.upd_self ((Sig.upd_ne hxd.symm).trans Sig.upd_self) ?_
  intro g nd sc pr σ' hg hn hs hp e1 e2 e3 bt h1 h2 h3 h4 h5
  exact ⟨rfl, q x d g nd sc pr σ' (newG_of hx hd hxd hg hn hs hp e1 e2 e3 bt h1 h2 h3 h4 h5)⟩
theorem digraph_0 {Q : Val → Sig → Prop} (hA : AOk A 4) (q : ∀ x d g nd sc pr σ', NewG σ σ' x d g nd sc pr [] → Q (.ref x) σ') : Cl B φ A (.ref 676) [] [] σ Q E := by
  refine Cl.cls makes676 init676 type559 fun x d hx hd hxd => ?_
  refine init_0 (hA.make (by decide)) Sig.upd_self ((Sig.upd_ne hxd.symm).trans Sig.upd_self) ?_
  intro g nd sc pr σ' hg hn hs hp e1 e2 e3 bt h1 h2 h3 h4 h5
  exact ⟨rfl, q x d g nd sc pr σ' (newG_of hx hd hxd hg hn hs hp e1 e2 e3 bt h1 h2 h3 h4 h5)⟩
theorem gd_graph {g nd sc pr : Addr} {kvs : List (Str × Val)} : (Str.ofString "graph", Val.ref g) ∈ gdict g nd sc pr ++ kvs := List.mem_append_left _ (.head _)
theorem gd_node {g nd sc pr : Addr} {kvs : List (Str × Val)} : (Str.ofString "_node", Val.ref nd) ∈ gdict g nd sc pr ++ kvs := List.mem_append_left _ (.tail _ (.head _))
theorem gd_adj {g nd sc pr : Addr} {kvs : List (Str × Val)} : (Str.ofString "_adj", Val.ref sc) ∈ gdict g nd sc pr ++ kvs := List.mem_append_left _ (.tail _ (.tail _ (.head _)))
theorem gd_succ {g nd sc pr : Addr} {kvs : List (Str × Val)} : (Str.ofString "_succ", Val.ref sc) ∈ gdict g nd sc pr ++ kvs := List.mem_append_left _ (.tail _ (.tail _ (.tail _ (.head _))))
theorem gd_pred {g nd sc pr : Addr} {kvs : List (Str × Val)} : (Str.ofString "_pred", Val.ref pr) ∈ gdict g nd sc pr ++ kvs := List.mem_append_left _ (.tail _ (.tail _ (.tail _ (.tail _ (.head _)))))
theorem addedge_net {G : Net} {c f : Nat → Nat → Int} {gr : List (Str × Val)} {out : Bool} {u v : Nat} {Q : Val → Sig → Prop} (hA : AOk A 3) (hh : A.handled = none) (h : G.At σ c f gr [] out) (hu : u < G.n) (hv : v < G.n) (hn : v ∉ G.S u)
    (q : ∀ e σ', σ e = none → σ.But σ' [G.sa u, G.pa v] → (G.add u v e).At σ' c f gr [] out → Q .none σ') :
    Cl B φ A (.ref 607) [.ref G.x, .int (G.nm u), .int (G.nm v)] [(Str.ofString "capacity", .int (c u v)), (Str.ofString "flow", .int (f u v))] σ Q E := by
  have ok := h.ok
  obtain ⟨e1, hsc⟩ := h.hsc
  obtain ⟨e2, hpr⟩ := h.hpr
  obtain ⟨e3, hsu⟩ := h.hsa u hu
  obtain ⟨e4, hpv⟩ := h.hpa v hv
  refine addedge_spec hA hh h.hx h.hd gd_adj gd_succ gd_pred (by unfold gdict; walk_at "nokeys") hsc hpr (Net.tab_mem hu) (Net.tab_key ok hv) (Net.tab_mem hv) hsu (fun m => hn ((Net.row_key ok hv fun j => ok.slt u j hu).mp m))
    (by rw [Net.row_len]; have := ok.s_le hu; omega) hpv (fun m => hn ((ok.ps u v hu hv).mp ((Net.row_key ok hu fun j => ok.plt j v hv).mp m))) (by rw [Net.row_len]; have := ok.p_le hv; omega) (ok.sp u v hu hv) (ok.st u hu).2.2 (ok.st u hu).2.1 ?_
  intro e σ' ep ep' he b h1 h2 h3
  exact q e σ' he b (h.add hu hv hn he b h1 h2 h3)
end
section
variable {B : Bd} {φ : Phi} {A : Around} {f : Fm} {m : LM} {σ : Sig} {E : Value → Shared → Prop}
theorem Su.vec {value slice : Expr} {l : Addr} {n : Nat} {g : Nat → Val} {i : Nat} {Q : Val → Sig → Prop} (hl : σ l = some (.list (vecOf n g))) (hi : i < n) (hn : n ≤ 1000) (q : Q (g i) σ)
    (hs : ∀ o i, subscripted slice false o i = operate [o, i] (getItem o i) := by intros; rfl) : Su B φ A value slice (.ref l) (.int i) σ Q E :=
  Su.list hl (by omega) (by omega) (by rw [Int.toNat_natCast]; exact vecOf_get hi) q hs
theorem Ev.mat {ex ey ez : Expr} {p p' : Pos} {a : Addr} {n i j : Nat} {r : Nat → Addr} {M : Nat → Nat → Int} {Q : Val → Sig → Prop} (h : MatAt σ a n r M) (hx : ∀ {Q : Val → Sig → Prop}, Q (.ref a) σ → Ev B φ A f m ex σ Q E) (hy : ∀ {Q : Val → Sig → Prop}, Q (.int i) σ → Ev B φ A f m ey σ Q E)
    (hz : ∀ {Q : Val → Sig → Prop}, Q (.int j) σ → Ev B φ A f m ez σ Q E) (hi : i < n) (hj : j < n) (hn : n ≤ 1000) (q : Q (.int (M i j)) σ)
    (hs : ∀ o i, subscripted ey false o i = operate [o, i] (getItem o i) := by intros; rfl) (hs' : ∀ o i, subscripted ez false o i = operate [o, i] (getItem o i) := by intros; rfl) :
    Ev B φ A f m (.Subscript (.Subscript ex ey p) ez p') σ Q E :=
  Ev.sub (Ev.sub (hx (hy (Su.vec h.top hi hn (hz (Su.vec (h.row i hi) hj hn q hs')) hs))))
end
theorem NodesAt.net {σ₀ σ : Sig} {x d g nd sc pr : Addr} {n : Nat} {nm : Nat → Int} {na sa pa : Int → Addr} {c f : Nat → Nat → Int} {gr : List (Str × Val)} {out : Bool} (h : NodesAt σ₀ σ nd sc pr ((List.range n).map nm) na sa pa) (hn : n ≤ 10) (inj : ∀ i j, i < n → j < n → nm i = nm j → i = j)
    (h0 : σ₀ nd ≠ Option.none ∧ σ₀ sc ≠ Option.none ∧ σ₀ pr ≠ Option.none) (hx : σ x = some (.inst 676 d)) (hd : σ d = some (.dD (gdict g nd sc pr) out)) (hg : σ g = some (.dS gr)) :
    (⟨n, nm, x, d, g, nd, sc, pr, fun i => na (nm i), fun i => sa (nm i), fun i => pa (nm i), fun _ _ => 0, fun _ => [], fun _ => []⟩ : Net).At σ c f gr [] out := by
  have mem : ∀ i, i < n → nm i ∈ (List.range n).map nm := fun i hi => List.mem_map_of_mem (List.mem_range.mpr hi)
  have tb : ∀ fn : Int → Addr, tabOf ((List.range n).map nm) fn = (List.range n).map fun i => (nm i, Val.ref (fn (nm i))) := fun fn => by unfold tabOf; rw [List.map_map]; rfl
  have ne : ∀ {a b : Addr}, σ₀ a = Option.none → σ₀ b ≠ Option.none → a ≠ b := fun h1 h2 e => h2 (e ▸ h1)
  refine ⟨⟨hn, inj, fun i j hi hj e => inj i j hi hj (h.sinj _ (mem i hi) _ (mem j hj) e), fun i j hi hj e => inj i j hi hj (h.pinj _ (mem i hi) _ (mem j hj) e), fun i j hi hj => h.sp _ (mem i hi) _ (mem j hj),
    fun i hi => ⟨ne (h.fresh _ (mem i hi)).2.1 h0.1, ne (h.fresh _ (mem i hi)).2.1 h0.2.1, ne (h.fresh _ (mem i hi)).2.1 h0.2.2⟩, fun i hi => ⟨ne (h.fresh _ (mem i hi)).2.2 h0.1, ne (h.fresh _ (mem i hi)).2.2 h0.2.1, ne (h.fresh _ (mem i hi)).2.2 h0.2.2⟩,
    fun i j _ hj => (nomatch hj), fun i j _ _ => ⟨fun hj => (nomatch hj), fun hj => (nomatch hj)⟩, fun i j _ hj => (nomatch hj), fun _ _ => List.nodup_nil, fun _ _ => List.nodup_nil, fun i j k l _ _ hj => (nomatch hj), fun i j _ hj => (nomatch hj)⟩,
    hx, by rw [List.append_nil]; exact hd, hg, ?_, ?_, ?_, fun i hi => ⟨0, h.csa _ (mem i hi)⟩, fun i hi => ⟨0, h.cpa _ (mem i hi)⟩, fun i j _ hj => (nomatch hj)⟩
  · obtain ⟨e, q⟩ := h.cnd; exact ⟨e, by rw [tb] at q; exact q⟩
  · obtain ⟨e, q⟩ := h.csc; exact ⟨e, by rw [tb] at q; exact q⟩
  · obtain ⟨e, q⟩ := h.cpr; exact ⟨e, by rw [tb] at q; exact q⟩
/-- a network under way: the edges that are in it -/
noncomputable def NetI (σ : Sig) (n : Nat) (nm : Nat → Int) (x : Addr) (c f : Nat → Nat → Int) (big : Int) (D : Nat → Nat → Prop) (τ : Sig) : Prop :=
  ∃ G : Net, G.n = n ∧ G.nm = nm ∧ G.x = x ∧ G.At τ c f [(Str.ofString "inf", .int big)] [] false ∧ (∀ i j, i < n → (j ∈ G.S i ↔ D i j)) ∧ (∀ i, i < n → σ (G.sa i) = none ∧ σ (G.pa i) = none) ∧ σ.But τ []
section
variable {B : Bd} {φ : Phi} {A : Around} {σ : Sig} {E : Value → Shared → Prop}
theorem network_spec {an ac af : Addr} {n : Nat} {nm : Nat → Int} {rc rf : Nat → Addr} {c fl : Nat → Nat → Int} {big : Int} {Q : Val → Sig → Prop} (hA : AOk A 5) (hh : A.handled = none) (hn : n ≤ 10) (inj : ∀ i j, i < n → j < n → nm i = nm j → i = j)
    (han : σ an = some (.list (vecOf n fun i => .int (nm i)))) (hc : MatAt σ ac n rc c) (hf : MatAt σ af n rf fl)
    (q : ∀ G : Net, ∀ σ', G.n = n → G.nm = nm → G.At σ' c fl [(Str.ofString "inf", .int big)] [] false → (∀ i j, i < n → (j ∈ G.S i ↔ (i ≠ j ∧ j < n ∧ (0 < c i j ∨ 0 < c j i)))) → σ.But σ' [] → Q (.ref G.x) σ') :
    Cl B φ A (.ref 731) [.ref an, .ref ac, .ref af, .int big] [] σ Q E := by
  refine Cl.def0 (k := 4) (gl := [(Str.ofString "DiGraph", .ref 676), (Str.ofString "list", .type "list"), (Str.ofString "range", .type "range"), (Str.ofString "len", .builtin "len")]) (ps := [Str.ofString "names", Str.ofString "caps", Str.ofString "flows", Str.ofString "big"]) (rest := [Str.ofString "R", Str.ofString "u", Str.ofString "v"])
    hA rfl rfl (by kernel_rfl) rfl (hb4 fun _ _ _ _ => rfl) rfl (by kernel_rfl) (by walk_at "gl") ?_
  intro env A' E' hL hA' eA eE hE
  have hh' : A'.handled = none := by rw [eA]; exact hh
  clear hL eA eE hA
  show Es B φ A' ⟨env, [], _⟩ [(Str.ofString "names", some (.ref an)), (Str.ofString "caps", some (.ref ac)), (Str.ofString "flows", some (.ref af)), (Str.ofString "big", some (.int big)), (Str.ofString "R", none), (Str.ofString "u", none), (Str.ofString "v", none)] (bodyOf B.w 731) σ _ E'
  refine Es.cons (Ex.asg (Ev.callG (by walk_at "mem") (El.nil (Ek.cons (Ev.loc (by walk_at "mem") (Ek.nil ⟨Kp.kin kept676, digraph_inf (hA'.le (by decide)) fun x d g nd sc pr σ₁ hG => ⟨_, by walk_at "sto", Seq.next ?_⟩⟩))))))
  have kl : ∀ {a : Addr} {vs : List Val}, σ a = some (.list vs) → σ₁ a = some (.list vs) := fun e => hG.but _ _ e List.not_mem_nil
  refine Es.cons (Ex.expr (Ev.methG m_addnodes (Ev.loc (by walk_at "mem") ⟨x, d, _, _, rfl, hG.hx, hG.hd, by unfold gdict; walk_at "nokeys", El.cons (Ev.callG (by walk_at "mem") (El.cons (Ev.loc (by walk_at "mem") (El.nil (Ek.nil ⟨Kp.ty, Cl.listOf (kl han) (by rw [vecOf_len]; omega) fun l hl => ?_⟩)))))⟩)))
  have hl' := hl
  have nx : ∀ {a : Addr} {c : Cell}, σ₁ a = some c → (σ₁.upd l (.list (vecOf n fun i => .int (nm i)))) a = some c := fun e => (Sig.upd_ne (Sig.ne e hl)).trans e
  have hgd : ∀ {k : Str} {v : Val}, (k, v) ∈ gdict g nd sc pr ++ [] → (k, v) ∈ gdict g nd sc pr := fun h => by rwa [List.append_nil] at h
  refine El.nil (Ek.nil (addnodes_spec (N := (List.range n).map nm) (hA'.le (by decide)) (nx hG.hx) (nx hG.hd) (hgd gd_node) (hgd gd_succ) (hgd gd_pred) (by unfold gdict; walk_at "nokeys") (by unfold gdict; walk_at "nokeys") (by rw [List.map_map]; exact Sig.upd_self) (nx hG.hn) (nx hG.hs) (nx hG.hp) hG.e1 hG.e2 hG.e3 ?_ (by rw [List.length_map, List.length_range]; omega) fun na sa pa σ₂ hN => Seq.next ?_))
  · refine List.pairwise_iff_getElem.mpr fun i j hi hj hij e => ?_
    simp only [List.getElem_map, List.getElem_range] at e
    simp only [List.length_map, List.length_range] at hi hj
    have := inj i j hi hj e
    omega
  have k2 : ∀ {a : Addr} {c : Cell}, σ₁ a = some c → (∀ kv ep, c ≠ .dI kv ep) → σ₂ a = some c := fun {a c} e n => by
    refine hN.but _ _ (nx e) fun m => ?_
    simp only [List.mem_cons, List.not_mem_nil, or_false] at m
    rcases m with rfl | rfl | rfl
    · rw [hG.hn] at e; cases e; exact n _ _ rfl
    · rw [hG.hs] at e; cases e; exact n _ _ rfl
    · rw [hG.hp] at e; cases e; exact n _ _ rfl
  have b2 : σ.But σ₂ [] := Sig.But.past (Sig.But.fresh hG.but hl) hN.but fun a ha => by
    simp only [List.mem_cons, List.not_mem_nil, or_false] at ha
    rcases ha with rfl | rfl | rfl
    · exact hG.fn
    · exact hG.fs
    · exact hG.fp
  have n1 : ∀ {a : Addr}, (σ₁.upd l (.list (vecOf n fun i => .int (nm i)))) a = none → σ a = none := fun {a} e => by
    cases e' : σ a with
    | none => rfl
    | some c => have := nx (hG.but _ _ e' List.not_mem_nil); rw [this] at e; cases e
  have N0 : NetI σ n nm x c fl big (fun i j => i ≠ j ∧ (0 < c i j ∨ 0 < c j i) ∧ (i < 0 ∧ j < 0)) σ₂ := by
    refine ⟨_, rfl, rfl, rfl, hN.net hn inj ⟨by rw [nx hG.hn]; simp, by rw [nx hG.hs]; simp, by rw [nx hG.hp]; simp⟩ (k2 hG.hx (by intros; exact fun e => nomatch e)) (k2 hG.hd (by intros; exact fun e => nomatch e)) (k2 hG.hg (by intros; exact fun e => nomatch e)), fun i j hi => ⟨fun h => (nomatch h), fun h => absurd h.2.2.1 (Nat.not_lt_zero _)⟩, fun i hi => ?_, b2⟩
    have := hN.fresh (nm i) (List.mem_map_of_mem (List.mem_range.mpr hi))
    exact ⟨n1 this.2.1, n1 this.2.2⟩
  clear hl hl' nx k2 kl hgd hN hG n1
  have kl : ∀ {τ : Sig} {a : Addr} {vs : List Val}, σ.But τ [] → σ a = some (.list vs) → τ a = some (.list vs) := fun b e => b _ _ e List.not_mem_nil
  have NI_up : ∀ {D : Nat → Nat → Prop} {τ : Sig} {a : Addr} {c' : Cell}, NetI σ n nm x c fl big D τ → τ a = none → NetI σ n nm x c fl big D (τ.upd a c') := fun {D τ a c'} ⟨G, g1, g2, g3, g4, g5, g6, g7⟩ ha =>
    ⟨G, g1, g2, g3, g4.keep0 (Sig.But.fresh Sig.But.refl ha), g5, g6, Sig.But.fresh g7 ha⟩
  refine Es.cons (Ex.for (vs := upTo n) (R := fun _ => True) (fun i m' τ => (∃ o1 o2, m' = [(Str.ofString "names", some (.ref an)), (Str.ofString "caps", some (.ref ac)), (Str.ofString "flows", some (.ref af)), (Str.ofString "big", some (.int big)), (Str.ofString "R", some (.ref x)), (Str.ofString "u", o1), (Str.ofString "v", o2)]) ∧
      NetI σ n nm x c fl big (fun a b => a ≠ b ∧ (0 < c a b ∨ 0 < c b a) ∧ (a < i ∧ b < i)) τ) hE ?_ (fun _ _ _ _ => trivial) ?_ ?_)
  · refine Ev.callG (by walk_at "mem") (El.cons (Ev.callG (by walk_at "mem") (El.cons (Ev.loc (by walk_at "mem") (El.nil (Ek.nil ⟨Kp.bi, Cl.len (kl b2 han) (by rw [vecOf_len]; omega) ?_⟩))))))
    rw [vecOf_len]
    refine El.nil (Ek.nil ⟨Kp.ty, Cl.range fun a ha => It.range Sig.upd_self (by omega) (by omega) ⟨⟨_, _, rfl⟩, NI_up N0 ha⟩⟩)
  · rintro i y m' τ it c' hc' hy ⟨⟨o1, o2, rfl⟩, hI⟩
    obtain ⟨rfl, hi⟩ := upTo_get hy
    have hi' : i < n := by omega
    refine ⟨_, by walk_at "sto", ?_⟩
    refine Es.cons (Ex.for (vs := upTo i) (R := fun _ => True) (fun j m' τ => (∃ o2, m' = [(Str.ofString "names", some (.ref an)), (Str.ofString "caps", some (.ref ac)), (Str.ofString "flows", some (.ref af)), (Str.ofString "big", some (.int big)), (Str.ofString "R", some (.ref x)), (Str.ofString "u", some (.int i)), (Str.ofString "v", o2)]) ∧
      NetI σ n nm x c fl big (fun a b => a ≠ b ∧ (0 < c a b ∨ 0 < c b a) ∧ ((a < i ∧ b < i) ∨ (a = i ∧ b < j) ∨ (b = i ∧ a < j))) τ) hE ?_ (fun _ _ _ _ => trivial) ?_ ?_)
    · refine Ev.callG (by walk_at "mem") (El.cons (Ev.loc (by walk_at "mem") (El.nil (Ek.nil ⟨Kp.ty, Cl.range fun a ha => It.range Sig.upd_self (by omega) (by omega) ⟨⟨_, rfl⟩, ?_⟩⟩))))
      obtain ⟨G, g1, g2, g3, g4, g5, g6, g7⟩ := NI_up (c' := rangeC 0 i 1) hI ha
      exact ⟨G, g1, g2, g3, g4, fun a b h => (g5 a b h).trans ⟨fun z => ⟨z.1, z.2.1, .inl z.2.2⟩, fun z => ⟨z.1, z.2.1, by rcases z.2.2 with z | z | z; exact z; exact absurd z.2 (Nat.not_lt_zero _); exact absurd z.2 (Nat.not_lt_zero _)⟩⟩, g6, g7⟩
    · rintro j y m' τ it' c'' hc'' hy ⟨⟨o2, rfl⟩, hJ⟩
      obtain ⟨rfl, hj⟩ := upTo_get hy
      have hji : j < i := by omega
      have hj' : j < n := by omega
      have bt : σ.But τ [] := let ⟨_, _, _, _, _, _, _, g7⟩ := hJ; g7
      have mc : MatAt τ ac n rc c := hc.keep fun b vs e => kl bt e
      have mf : MatAt τ af n rf fl := hf.keep fun b vs e => kl bt e
      refine ⟨_, by walk_at "sto", ?_⟩
      refine Es.cons (Ex.ifs (Bt.mono (Q := fun b τ' => b = decide (0 < c i j ∨ 0 < c j i) ∧ τ' = τ) ?_ ?_))
      · refine Bt.or (Bt.cmp (Ev.mat mc (Ev.loc (by walk_at "mem")) (Ev.loc (by walk_at "mem")) (Ev.loc (by walk_at "mem")) hi' hj' (by omega) (Ev.int (Cm.gt (Tr.bool ⟨fun h => ⟨?_, rfl⟩, fun h => ?_⟩)))))
        · exact (decide_eq_true (Or.inl (of_decide_eq_true h))).symm
        refine Bt.or (Bt.cmp (Ev.mat mc (Ev.loc (by walk_at "mem")) (Ev.loc (by walk_at "mem")) (Ev.loc (by walk_at "mem")) hj' hi' (by omega) (Ev.int (Cm.gt (Tr.bool ⟨fun h' => ⟨?_, rfl⟩, fun h' => Bt.or_nil ⟨?_, rfl⟩⟩)))))
        · exact (decide_eq_true (Or.inr (of_decide_eq_true h'))).symm
        · exact (decide_eq_false fun z => z.elim (of_decide_eq_false h) (of_decide_eq_false h')).symm
      · rintro b τ' ⟨rfl, rfl⟩
        refine ⟨fun h => ?_, fun h => ?_⟩
        · have hcond : 0 < c i j ∨ 0 < c j i := of_decide_eq_true h
          obtain ⟨G, rfl, rfl, rfl, g4, g5, g6, g7⟩ := hJ
          have han' := kl g7 han
          refine Es.cons (Ex.expr (Ev.methG m_addedge (Ev.loc (by walk_at "mem") ⟨G.x, G.d, _, _, rfl, g4.hx, g4.hd, by unfold gdict; walk_at "nokeys", ?_⟩)))
          refine El.cons (Ev.sub (Ev.loc (by walk_at "mem") (Ev.loc (by walk_at "mem") (Su.vec han' hi' (by omega) ?_))))
          refine El.cons (Ev.sub (Ev.loc (by walk_at "mem") (Ev.loc (by walk_at "mem") (Su.vec han' hj' (by omega) ?_))))
          refine El.nil (Ek.cons (Ev.mat mc (Ev.loc (by walk_at "mem")) (Ev.loc (by walk_at "mem")) (Ev.loc (by walk_at "mem")) hi' hj' (by omega) ?_))
          refine Ek.cons (Ev.mat mf (Ev.loc (by walk_at "mem")) (Ev.loc (by walk_at "mem")) (Ev.loc (by walk_at "mem")) hi' hj' (by omega) (Ek.nil ?_))
          refine addedge_net (hA'.le (by decide)) hh' g4 hi' hj' (fun h => ?_) fun e1 τ₁ he1 b1 at1 => Seq.next ?_
          · have := ((g5 i j hi').mp h).2.2; omega
          have g7' : σ.But τ₁ [] := Sig.But.past g7 b1 fun a ha => by
            simp only [List.mem_cons, List.not_mem_nil, or_false] at ha
            rcases ha with rfl | rfl
            · exact (g6 i hi').1
            · exact (g6 j hj').2
          have mc' : MatAt τ₁ ac G.n rc c := hc.keep fun b vs e => kl g7' e
          have mf' : MatAt τ₁ af G.n rf fl := hf.keep fun b vs e => kl g7' e
          have han'' := kl g7' han
          have xx : (G.add i j e1).x = G.x := rfl
          refine Es.cons (Ex.expr (Ev.methG m_addedge (Ev.loc (by walk_at "mem") ⟨G.x, G.d, _, _, rfl, at1.hx, at1.hd, by unfold gdict; walk_at "nokeys", ?_⟩)))
          refine El.cons (Ev.sub (Ev.loc (by walk_at "mem") (Ev.loc (by walk_at "mem") (Su.vec han'' hj' (by omega) ?_))))
          refine El.cons (Ev.sub (Ev.loc (by walk_at "mem") (Ev.loc (by walk_at "mem") (Su.vec han'' hi' (by omega) ?_))))
          refine El.nil (Ek.cons (Ev.mat mc' (Ev.loc (by walk_at "mem")) (Ev.loc (by walk_at "mem")) (Ev.loc (by walk_at "mem")) hj' hi' (by omega) ?_))
          refine Ek.cons (Ev.mat mf' (Ev.loc (by walk_at "mem")) (Ev.loc (by walk_at "mem")) (Ev.loc (by walk_at "mem")) hj' hi' (by omega) (Ek.nil ?_))
          have sji : (G.add i j e1).S j = G.S j := setN_ne (by omega)
          refine addedge_net (G := G.add i j e1) (c := c) (f := fl) (u := j) (v := i) (hA'.le (by decide)) hh' at1 hj' hi' (fun h => ?_) fun e2 τ₂ he2 b2 at2 => Seq.next (Es.nil (Seq.next (Es.nil ?_)))
          · rw [sji] at h
            have := ((g5 j i hj').mp h).2.2; omega
          refine ⟨⟨_, rfl⟩, (G.add i j e1).add j i e2, rfl, rfl, rfl, at2, fun a b ha => ?_, fun a ha => g6 a ha, Sig.But.past g7' b2 fun a ha => ?_⟩
          · show b ∈ setN (setN G.S i (G.S i ++ [j])) j (setN G.S i (G.S i ++ [j]) j ++ [i]) a ↔ _
            rw [setN_ne (show j ≠ i by omega)]
            by_cases aj : a = j
            · subst aj
              rw [setN_self, List.mem_append, List.mem_singleton, g5 _ _ ha]
              constructor
              · rintro (z | z)
                · exact ⟨z.1, z.2.1, by omega⟩
                · subst z; exact ⟨by omega, hcond.symm, by omega⟩
              · intro z
                by_cases bi : b = i
                · exact .inr bi
                · exact .inl ⟨z.1, z.2.1, by omega⟩
            · rw [setN_ne aj]
              by_cases ai : a = i
              · subst ai
                rw [setN_self, List.mem_append, List.mem_singleton, g5 _ _ ha]
                constructor
                · rintro (z | z)
                  · exact ⟨z.1, z.2.1, by omega⟩
                  · subst z; exact ⟨by omega, hcond, by omega⟩
                · intro z
                  by_cases bj : b = j
                  · exact .inr bj
                  · exact .inl ⟨z.1, z.2.1, by omega⟩
              · rw [setN_ne ai, g5 _ _ ha]
                constructor
                · intro z; exact ⟨z.1, z.2.1, by omega⟩
                · intro z; exact ⟨z.1, z.2.1, by omega⟩
          · simp only [List.mem_cons, List.not_mem_nil, or_false] at ha
            rcases ha with rfl | rfl
            · exact (g6 j hj').1
            · exact (g6 i hi').2
        · have hcond : ¬ (0 < c i j ∨ 0 < c j i) := of_decide_eq_false h
          obtain ⟨G, g1, g2, g3, g4, g5, g6, g7⟩ := hJ
          refine Es.nil (Seq.next (Es.nil ⟨⟨_, rfl⟩, G, g1, g2, g3, g4, fun a b ha => (g5 a b ha).trans ?_, g6, g7⟩))
          constructor
          · intro z; exact ⟨z.1, z.2.1, by omega⟩
          · intro z
            refine ⟨z.1, z.2.1, ?_⟩
            rcases z.2.2 with y | y | y
            · exact .inl y
            · by_cases e : b = j
              · exact absurd z.2.1 (by rw [y.1, e]; exact hcond)
              · omega
            · by_cases e : a = j
              · exact absurd z.2.1.symm (by rw [y.1, e]; exact hcond)
              · omega
    · rintro m' τ ⟨⟨o2, rfl⟩, hJ⟩
      obtain ⟨G, g1, g2, g3, g4, g5, g6, g7⟩ := hJ
      rw [upTo_len, Int.toNat_natCast] at g5
      refine Seq.next (Es.nil ⟨⟨_, _, rfl⟩, G, g1, g2, g3, g4, fun a b ha => (g5 a b ha).trans ?_, g6, g7⟩)
      constructor
      · intro z; exact ⟨z.1, z.2.1, by omega⟩
      · intro z; exact ⟨z.1, z.2.1, by omega⟩
  · rintro m' τ ⟨⟨o1, o2, rfl⟩, G, g1, g2, g3, g4, g5, g6, g7⟩
    rw [upTo_len, Int.toNat_natCast] at g5
    subst g3
    refine Seq.next (Es.cons (Ex.ret (Ev.loc (by walk_at "mem") (q G τ g1 g2 g4 (fun i j hi => (g5 i j hi).trans ?_) g7))))
    constructor
    · intro z; exact ⟨z.1, z.2.2.2, z.2.1⟩
    · intro z; exact ⟨z.1, z.2.2, hi, z.2.1⟩
end
theorem MatAt.set {σ : Sig} {a : Addr} {n : Nat} {r : Nat → Addr} {M : Nat → Nat → Int} (h : MatAt σ a n r M) (inj : ∀ i j, i < n → j < n → r i = r j → i = j) {i j : Nat} (hi : i < n) (hj : j < n) {x : Int} :
    MatAt (σ.upd (r i) (.list ((vecOf n fun j => .int (M i j)).set j (.int x)))) a n r (set2 M i j x) := by
  have hne : a ≠ r i := fun e => by
    have h1 := h.top
    rw [e, h.row i hi] at h1
    have h2 : (vecOf n fun j => Val.int (M i j)) = vecOf n fun i => .ref (r i) := by injection h1 with h1; injection h1
    have := congrArg (fun l : List Val => l[i]?) h2
    simp only [vecOf_get hi] at this
    cases this
  refine ⟨(Sig.upd_ne hne).trans h.top, fun k hk => ?_⟩
  by_cases e : k = i
  · subst e
    rw [Sig.upd_self, vecOf_set]
    congr 2
    refine vecOf_congr fun l hl => ?_
    by_cases el : l = j
    · subst el; rw [setN_self, set2_self]
    · rw [setN_ne el, set2_ne fun z => el z.2]
  · rw [Sig.upd_ne fun z => e (inj _ _ hk hi z), h.row k hk]
    congr 2
    exact vecOf_congr fun l hl => by rw [set2_ne fun z => e z.1]
theorem MatAt.congr {σ : Sig} {a : Addr} {n : Nat} {r : Nat → Addr} {M M' : Nat → Nat → Int} (h : MatAt σ a n r M) (e : ∀ i j, i < n → j < n → M i j = M' i j) : MatAt σ a n r M' :=
  ⟨h.top, fun i hi => by rw [h.row i hi]; congr 2; exact vecOf_congr fun j hj => by rw [e i j hi hj]⟩
/-- rows of zeros, new since σ₀ -/
structure RowsAt (σ₀ σ : Sig) (n i : Nat) (r : Nat → Addr) : Prop where
  row : ∀ k, k < i → σ (r k) = some (.list (vecOf n fun _ => .int 0))
  fresh : ∀ k, k < i → σ₀ (r k) = none
  inj : ∀ k l, k < i → l < i → r k = r l → k = l
  but : σ₀.But σ []
theorem vecOf_succ {n : Nat} {f : Nat → Val} : vecOf (n + 1) f = vecOf n f ++ [f n] := by unfold vecOf; rw [List.range_succ, List.map_append]; rfl
theorem RowsAt.step {σ₀ σ σ₁ : Sig} {n i : Nat} {r : Nat → Addr} {a : Addr} {x : Cell} {t : Addr} (h : RowsAt σ₀ σ n i r) (ht : σ t = none) (ha : (σ.upd t x) a = none) : RowsAt σ₀ ((σ.upd t x).upd a (.list (vecOf n fun _ => .int 0))) n (i + 1) (setN r i a) := by
  obtain ⟨hat, ha'⟩ := Sig.upd_none ha
  have old : ∀ k, k < i → r k ≠ a := fun k hk e => by have := h.row k hk; rw [e, ha'] at this; cases this
  have oldt : ∀ k, k < i → r k ≠ t := fun k hk e => by have := h.row k hk; rw [e, ht] at this; cases this
  have f : ∀ k, k < i → setN r i a k = r k := fun k hk => setN_ne (Nat.ne_of_lt hk)
  refine ⟨fun k hk => ?_, fun k hk => ?_, fun k l hk hl e => ?_, Sig.But.fresh (Sig.But.fresh h.but ht) ha⟩
  · by_cases e : k = i
    · rw [e, setN_self]; exact Sig.upd_self
    · rw [f k (by omega), Sig.upd_ne (old k (by omega)), Sig.upd_ne (oldt k (by omega))]; exact h.row k (by omega)
  · by_cases e : k = i
    · rw [e, setN_self]
      cases e' : σ₀ a with
      | none => rfl
      | some c => have := h.but _ _ e' List.not_mem_nil; rw [ha'] at this; cases this
    · rw [f k (by omega)]; exact h.fresh k (by omega)
  · by_cases e1 : k = i <;> by_cases e2 : l = i
    · omega
    · rw [e1, setN_self, f l (by omega)] at e; exact absurd e.symm (old l (by omega))
    · rw [e2, setN_self, f k (by omega)] at e; exact absurd e (old k (by omega))
    · rw [f k (by omega), f l (by omega)] at e; exact h.inj k l (by omega) (by omega) e
section
variable {B : Bd} {φ : Phi} {A : Around} {f : Fm} {m : LM} {σ : Sig} {E : Value → Shared → Prop}
/-- [[0] * n for u in range(n)] -/
theorem zeros_loop {σ₀ : Sig} (hb : σ₀.But σ []) {iter : Expr} {k0 : Nat} {p0 p1 p2 p3 px pos : Pos} {scope : Scope} {cn : Addr} {gl : List (Str × Value)} {N : Nat} (hN : N ≤ 1000) (hcell : cellNames scope.names = []) (hn : σ cn = some (.cel (some (.int N)))) :
    CompLoop B φ A (.BinOp (.List [.Constant (.int 0) k0 p0] p1) .Mult (.Name (Str.ofString "n") p2) p3) [⟨.Name (Str.ofString "u") px, iter, [], 0⟩] scope pos [Str.ofString "u"] [(Str.ofString "n", cn)] gl (upTo N) (fun _ => True) σ
      (fun ys σ' => ∃ r, ys = (vecOf N fun i => .ref (r i)) ∧ RowsAt σ₀ σ' N N r) := by
  refine CompLoop.one (o := Option.none) (I := fun i ys σ' => i ≤ N ∧ σ' cn = some (.cel (some (.int N))) ∧ ∃ r, ys = (vecOf i fun i => .ref (r i)) ∧ RowsAt σ₀ σ' N i r) hcell (fun _ _ _ _ => trivial) ?_ ?_ ?_ ?_
  · rintro i ys σ' ⟨hi, _, r, rfl, h⟩
    rw [vecOf_len]; omega
  · have z : ∀ {P : Nat → Prop}, ∀ k, k < 0 → P k := fun k h => absurd h (Nat.not_lt_zero _)
    exact ⟨Nat.zero_le _, hn, fun _ => 0, rfl, z, z, fun k l hk => absurd hk (Nat.not_lt_zero _), hb⟩
  · rintro i y ys σ' φ' env E hy ⟨hi, hn', r, rfl, h⟩
    obtain ⟨rfl, hi'⟩ := upTo_get hy
    refine ⟨fun _ => ?_, fun e => (nomatch e)⟩
    refine Ev.bin (Ev.list (El.cons (Ev.int (El.nil ⟨by simp, fun t ht => ?_⟩))))
    refine Ev.cel (List.mem_singleton.mpr rfl) ((Sig.upd_ne (Sig.ne hn' ht)).trans hn') ?_
    refine Bn.mulList Sig.upd_self (by omega) (by omega) fun a ha => ?_
    have e : List.replicate (Int.toNat (N : Int)) (Val.int 0) = vecOf N fun _ => .int 0 := by rw [Int.toNat_natCast]; exact (List.map_const' ..).trans (by rw [List.length_range]) |>.symm
    rw [e]
    have hat := Sig.upd_none ha
    refine ⟨by omega, (Sig.upd_ne (Sig.ne hn' hat.2)).trans ((Sig.upd_ne (Sig.ne hn' ht)).trans hn'), setN r i a, ?_, h.step (σ₁ := σ) ht ha⟩
    rw [vecOf_succ, setN_self]
    congr 1
    exact vecOf_congr fun j hj => by rw [setN_ne (Nat.ne_of_lt hj)]
  · rintro ys σ' ⟨hi, _, r, e, h⟩
    rw [upTo_len, Int.toNat_natCast] at e h
    exact ⟨r, e, h⟩
end
/-- what has been cached in a network's dict -/
noncomputable def Net.k3 (G : Net) : List (Str × Val) := [(Str.ofString "nodes", .ref G.nd), (Str.ofString "pred", .ref G.pr), (Str.ofString "succ", .ref G.sc)]
noncomputable def Net.k4 (G : Net) : List (Str × Val) := [(Str.ofString "nodes", .ref G.nd), (Str.ofString "pred", .ref G.pr), (Str.ofString "succ", .ref G.sc), (Str.ofString "adj", .ref G.sc)]
/-- a network whose dict has been handed out -/
noncomputable def Net.AtC (G : Net) (σ : Sig) (c f : Nat → Nat → Int) (gr : List (Str × Val)) : Prop := ∃ kvs, (kvs = G.k3 ∨ kvs = G.k4) ∧ G.At σ c f gr kvs true
theorem Net.At.cache {G : Net} {σ : Sig} {c f : Nat → Nat → Int} {gr kvs kvs' : List (Str × Val)} {out out' : Bool} (h : G.At σ c f gr kvs out) : G.At (σ.upd G.d (.dD (gdict G.g G.nd G.sc G.pr ++ kvs') out')) c f gr kvs' out' := by
  have k : ∀ {a : Addr} {x : Cell}, σ a = some x → (∀ l o, x ≠ .dD l o) → (σ.upd G.d (.dD (gdict G.g G.nd G.sc G.pr ++ kvs') out')) a = some x := fun {a x} e n => by
    refine (Sig.upd_ne fun z => ?_).trans e
    rw [z, h.hd] at e; cases e; exact n _ _ rfl
  exact ⟨h.ok, k h.hx (by intros; exact fun e => nomatch e), Sig.upd_self, k h.hg (by intros; exact fun e => nomatch e), let ⟨e, q⟩ := h.hnd; ⟨e, k q (by intros; exact fun e => nomatch e)⟩, let ⟨e, q⟩ := h.hsc; ⟨e, k q (by intros; exact fun e => nomatch e)⟩,
    let ⟨e, q⟩ := h.hpr; ⟨e, k q (by intros; exact fun e => nomatch e)⟩, fun i hi => let ⟨e, q⟩ := h.hsa i hi; ⟨e, k q (by intros; exact fun e => nomatch e)⟩, fun i hi => let ⟨e, q⟩ := h.hpa i hi; ⟨e, k q (by intros; exact fun e => nomatch e)⟩,
    fun i j hi hj => k (h.hea i j hi hj) (by intros; exact fun e => nomatch e)⟩
section
variable {B : Bd} {φ : Phi} {A : Around} {σ : Sig} {E : Value → Shared → Prop}
/-- R[names[u]] -/
theorem Su.net {value slice : Expr} {G : Net} {c f : Nat → Nat → Int} {gr : List (Str × Val)} {i : Nat} {Q : Val → Sig → Prop} (hA : AOk A 6) (h : G.AtC σ c f gr) (hi : i < G.n) (q : ∀ σ', G.AtC σ' c f gr → σ.But σ' [G.d] → Q (.ref (G.sa i)) σ')
    (hsl : ∀ i, subscripted slice true (.ref G.x) i = runValue (.builtin "lifetime.subscript" ⟨[.ref G.x, i], []⟩) := by intro _; with_unfolding_all rfl) : Su B φ A value slice (.ref G.x) (.int (G.nm i)) σ Q E := by
  obtain ⟨kvs, hk, h⟩ := h
  obtain ⟨e1, hsc⟩ := h.hsc
  refine Su.inst (g := 0) h.hx h.hd (fun E => ?_) hsl
  rcases hk with rfl | rfl
  · refine getitem_first (hA.in1 (by decide)) h.hx h.hd gd_adj (by unfold gdict Net.k3; walk_at "nokeys") (by unfold gdict Net.k3; simp) hsc (Net.tab_mem hi) ?_
    exact q _ ⟨G.k4, .inr rfl, h.cache⟩ (Sig.But.upd Sig.But.refl (by simp))
  · refine getitem_again (hA.in1 (by decide)) h.hx h.hd (by unfold gdict Net.k4; simp) hsc (Net.tab_mem hi) ?_
    exact q _ ⟨G.k4, .inr rfl, h⟩ Sig.But.refl
end
theorem Net.AtC.keep0 {G : Net} {σ σ' : Sig} {c f : Nat → Nat → Int} {gr : List (Str × Val)} (h : G.AtC σ c f gr) (b : σ.But σ' []) : G.AtC σ' c f gr := let ⟨k, hk, h⟩ := h; ⟨k, hk, h.keep0 b⟩
/-- a list's cell is turned: the network stands -/
theorem Net.AtC.list {G : Net} {σ : Sig} {c f : Nat → Nat → Int} {gr : List (Str × Val)} (h : G.AtC σ c f gr) {a : Addr} {vs vs' : List Val} (ha : σ a = some (.list vs)) : G.AtC (σ.upd a (.list vs')) c f gr := by
  obtain ⟨k, hk, h⟩ := h
  have n : ∀ {b : Addr} {x : Cell}, σ b = some x → (∀ l, x ≠ .list l) → a ≠ b := fun {b x} e n z => by rw [← z, ha] at e; cases e; exact n _ rfl
  refine ⟨k, hk, h.keep (l := [a]) (Sig.But.upd Sig.But.refl (by simp)) fun b hb => ?_⟩
  rw [List.mem_singleton.mp hb]
  refine ⟨n h.hx (by intros; exact fun e => nomatch e), n h.hd (by intros; exact fun e => nomatch e), n h.hg (by intros; exact fun e => nomatch e), ?_, ?_, ?_, fun i hi => ⟨?_, ?_⟩, fun i j hi hj => n (h.hea i j hi hj) (by intros; exact fun e => nomatch e)⟩
  · obtain ⟨_, q⟩ := h.hnd; exact n q (by intros; exact fun e => nomatch e)
  · obtain ⟨_, q⟩ := h.hsc; exact n q (by intros; exact fun e => nomatch e)
  · obtain ⟨_, q⟩ := h.hpr; exact n q (by intros; exact fun e => nomatch e)
  · obtain ⟨_, q⟩ := h.hsa i hi; exact n q (by intros; exact fun e => nomatch e)
  · obtain ⟨_, q⟩ := h.hpa i hi; exact n q (by intros; exact fun e => nomatch e)
section
variable {B : Bd} {φ : Phi} {A : Around} {σ : Sig} {E : Value → Shared → Prop}
theorem read_spec {G : Net} {an ac : Addr} {rc : Nat → Addr} {c f cm : Nat → Nat → Int} {gr : List (Str × Val)} {Q : Val → Sig → Prop} (hA : AOk A 7) (hG : G.AtC σ c f gr)
    (han : σ an = some (.list (vecOf G.n fun i => .int (G.nm i)))) (hc : MatAt σ ac G.n rc cm) (hcm : ∀ i j, i < G.n → j ∈ G.S i → cm i j = c i j) (hcap : ∀ i j, i < G.n → j ∈ G.S i → f i j ≤ c i j) (hno : ∀ i j, i < G.n → j < G.n → j ∉ G.S i → cm i j ≤ 0 ∧ f i j = 0)
    (q : ∀ a r σ', MatAt σ' a G.n r f → G.AtC σ' c f gr → σ.But σ' [G.d] → Q (.ref a) σ') :
    Cl B φ A (.ref 736) [.ref G.x, .ref an, .ref ac] [] σ Q E := by
  have ok : G.Ok := let ⟨_, _, h⟩ := hG; h.ok
  have hle := ok.le
  refine Cl.defK (k := 6) (ls := [Str.ofString "R", Str.ofString "names", Str.ofString "caps", Str.ofString "u", Str.ofString "table", Str.ofString "near", Str.ofString "v", Str.ofString "row"]) (gl := [(Str.ofString "len", .builtin "len"), (Str.ofString "range", .type "range")])
    (ps := [Str.ofString "R", Str.ofString "names", Str.ofString "caps"]) hA rfl rfl (by kernel_rfl) rfl (hb3 fun _ _ _ => rfl) (by kernel_rfl) (by exact List.nodup_cons.mpr ⟨List.not_mem_nil, List.nodup_nil⟩) (by walk_at "gl") ?_
  intro env A' E' as hA' eA eE hE hlen hfr
  obtain ⟨cn, rfl⟩ : ∃ a, as = [a] := List.length_eq_one_iff.mp hlen
  have hcn : σ cn = none := hfr.1
  clear hlen hfr eA eE hA
  refine .inl ⟨_, .head, .inl ⟨_, .tail .head, .inl ⟨_, .tail (.tail .head), BindK.nil ?_⟩⟩⟩
  show Es B φ A' ⟨env, [(Str.ofString "n", cn)], _⟩ [(Str.ofString "R", some (.ref G.x)), (Str.ofString "names", some (.ref an)), (Str.ofString "caps", some (.ref ac)), (Str.ofString "u", none), (Str.ofString "table", none), (Str.ofString "near", none), (Str.ofString "v", none), (Str.ofString "row", none)] (bodyOf B.w 736) (σ.upd cn (.cel none)) _ E'
  refine Es.cons (Ex.asgC' (c := cn) (by walk_at "mem") (Ev.callG (by walk_at "mem") (El.cons (Ev.loc (by walk_at "mem") (El.nil (Ek.nil ⟨Kp.bi, Cl.len ((Sig.upd_ne (Sig.ne han hcn)).trans han) (by rw [vecOf_len]; omega) ⟨_, Sig.upd_self, Seq.next ?_⟩⟩))))))
  rw [vecOf_len, Sig.upd_upd]
  have b1 : σ.But (σ.upd cn (.cel (some (.int G.n)))) [] := Sig.But.new Sig.But.refl hcn
  have hG1 := hG.keep0 b1
  have han1 := b1 _ _ han List.not_mem_nil
  have hc1 := hc.keep fun b vs e => b1 b _ e List.not_mem_nil
  have hn1 : (σ.upd cn (.cel (some (.int G.n)))) cn = some (.cel (some (.int G.n))) := Sig.upd_self
  generalize hs1 : σ.upd cn (.cel (some (.int G.n))) = σ₁ at *
  clear hs1 hG han hc
  refine Es.cons (Ex.asgCompL (ls := [Str.ofString "u"]) (fr := [(Str.ofString "n", cn)]) (gl := []) (vs := upTo G.n) (R := fun _ => True) (by walk_at "mem") (by kernel_rfl) (fun q hq => by rw [List.mem_singleton.mp hq]; exact .head _) (fun _ h => nomatch h)
    (Ev.callG (by walk_at "mem") (El.cons (Ev.cel (List.mem_singleton.mpr rfl) hn1 (El.nil (Ek.nil ⟨Kp.ty, Cl.range fun a ha => It.range Sig.upd_self (by omega) (by omega) (zeros_loop (σ₀ := σ₁) (Sig.But.fresh Sig.But.refl ha) (N := G.n) (by omega) rfl ((Sig.upd_ne (Sig.ne hn1 ha)).trans hn1))⟩))))) ?_)
  rintro ys σ₂ t ⟨r, rfl, hr⟩ ht
  walk_at "stok"
  have kn : ∀ {τ : Sig} {a : Addr} {x : Cell}, σ₁.But τ [G.d, t] → σ₁ a = some x → a ≠ G.d → τ a = some x := fun {τ a x} b e n => by
    refine b _ _ e fun m => ?_
    simp only [List.mem_cons, List.not_mem_nil, or_false] at m
    rcases m with rfl | rfl
    · exact n rfl
    · rw [hr.but _ _ e List.not_mem_nil] at ht; cases ht
  have gd : ∀ {a : Addr} {vs : List Val}, σ₁ a = some (.list vs) → a ≠ G.d := fun e z => by
    obtain ⟨_, _, h⟩ := hG1
    rw [z, h.hd] at e; cases e
  have cd : cn ≠ G.d := fun z => by
    obtain ⟨_, _, h⟩ := hG1
    rw [z, h.hd] at hn1; cases hn1
  let T : Nat → Nat → Nat → Nat → Int := fun i j a b => if a < i ∨ (a = i ∧ b < j) then f a b else 0
  let J : Nat → Nat → Sig → Prop := fun i j τ => MatAt τ t G.n r (T i j) ∧ G.AtC τ c f gr ∧ σ₁.But τ (G.d :: t :: (List.range G.n).map r)
  have fr : ∀ {a : Addr} {x : Cell}, σ₁ a = some x → a ∉ (List.range G.n).map r := fun {a x} e m => by
    obtain ⟨k, hk, rfl⟩ := List.mem_map.mp m
    rw [hr.fresh k (List.mem_range.mp hk)] at e; cases e
  have kp : ∀ {i j : Nat} {τ : Sig} {a : Addr} {x : Cell}, J i j τ → σ₁ a = some x → a ≠ G.d → τ a = some x := fun {i j τ a x} hJ e n => by
    refine hJ.2.2 _ _ e fun m => ?_
    rcases List.mem_cons.mp m with rfl | m
    · exact n rfl
    rcases List.mem_cons.mp m with rfl | m
    · rw [hr.but _ _ e List.not_mem_nil] at ht; cases ht
    · exact fr e m
  have up : ∀ {i j : Nat} {τ : Sig} {a : Addr} {x : Cell}, J i j τ → τ a = none → J i j (τ.upd a x) := fun {i j τ a x} ⟨h1, h2, h3⟩ ha =>
    ⟨h1.keep fun b vs e => (Sig.upd_ne (Sig.ne e ha)).trans e, h2.keep0 (Sig.But.fresh Sig.But.refl ha), Sig.But.fresh h3 ha⟩
  have rinj : ∀ i j, i < G.n → j < G.n → r i = r j → i = j := fun i j hi hj e => hr.inj i j hi hj e
  have J0 : J 0 0 (σ₂.upd t (.list (vecOf G.n fun i => .ref (r i)))) := by
    refine ⟨⟨Sig.upd_self, fun i hi => ?_⟩, (hG1.keep0 hr.but).keep0 (Sig.But.fresh Sig.But.refl ht), Sig.But.fresh (hr.but.mono fun a h => nomatch h) ht⟩
    rw [Sig.upd_ne (Sig.ne (hr.row i hi) ht), hr.row i hi]
    congr 2
    exact vecOf_congr fun j hj => by
      show Val.int 0 = Val.int (if i < 0 ∨ (i = 0 ∧ j < 0) then f i j else 0)
      rw [if_neg (by omega)]
  have rng : ∀ {m' : LM} {τ : Sig} {i j : Nat} {ψ : Phi} {K : Sig → Prop} {E : Value → Shared → Prop} {p₁ p₂ p₃ : Pos}, J i j τ → (∀ a, τ a = none → K (τ.upd a (rangeC 0 G.n 1))) →
      Ev B ψ A' ⟨env, [(Str.ofString "n", cn)], [(Str.ofString "len", .builtin "len"), (Str.ofString "range", .type "range")]⟩ m' (.Call (.Name (Str.ofString "range") p₁) [.Name (Str.ofString "n") p₂] [] p₃) τ (fun v σ₁ => It B ((env.locals, .fr ⟨env, [(Str.ofString "n", cn)], [(Str.ofString "len", .builtin "len"), (Str.ofString "range", .type "range")]⟩ m') :: ψ) A' v σ₁ (upTo G.n) (fun _ => True) K) E := fun {m' τ i j ψ K E p₁ p₂ p₃} hJ k =>
    Ev.callG (by walk_at "mem") (El.cons (Ev.cel (List.mem_singleton.mpr rfl) (kp hJ hn1 cd) (El.nil (Ek.nil ⟨Kp.ty, Cl.range fun a ha => It.range Sig.upd_self (by omega) (by omega) (k a ha)⟩))))
  refine Seq.next (Es.cons (Ex.for (vs := upTo G.n) (R := fun _ => True) (fun i m' τ => (∃ o1 o2 o3 o4, m' = [(Str.ofString "R", some (.ref G.x)), (Str.ofString "names", some (.ref an)), (Str.ofString "caps", some (.ref ac)), (Str.ofString "u", o1), (Str.ofString "table", some (.ref t)), (Str.ofString "near", o2), (Str.ofString "v", o3), (Str.ofString "row", o4)]) ∧ J i 0 τ) hE ?_ (fun _ _ _ _ => trivial) ?_ ?_))
  · exact rng J0 fun a ha => ⟨⟨_, _, _, _, rfl⟩, up J0 ha⟩
  · rintro i y m' τ it c' hc' hy ⟨⟨o1, o2, o3, o4, rfl⟩, hJ⟩
    obtain ⟨rfl, hi⟩ := upTo_get hy
    have hi' : i < G.n := by omega
    refine ⟨_, by walk_at "sto", ?_⟩
    refine Es.cons (Ex.asg (Ev.sub (Ev.loc (by walk_at "mem") (Ev.sub (Ev.loc (by walk_at "mem") (Ev.loc (by walk_at "mem") (Su.vec (kp hJ han1 (gd han1)) hi' (by omega) (Su.net (hA'.le (by decide)) hJ.2.1 hi' fun τ₁ hG2 b2 => ?_))))))))
    walk_at "stok"
    have hJ1 : J i 0 τ₁ := by
      obtain ⟨_, _, hx⟩ := hJ.2.1
      have nd : ∀ {b : Addr} {vs : List Val}, τ b = some (.list vs) → b ∉ [G.d] := fun {b vs} e m => by rw [List.mem_singleton.mp m, hx.hd] at e; cases e
      refine ⟨hJ.1.keep fun b vs e => b2 _ _ e (nd e), hG2, ?_⟩
      exact (hJ.2.2.trans b2).mono fun a ha => by
        rcases List.mem_append.mp ha with h | h
        · exact h
        · rw [List.mem_singleton.mp h]; exact .head _
    clear hJ b2 hG2
    refine Seq.next (Es.cons (Ex.for (vs := upTo G.n) (R := fun _ => True) (fun j m' τ => (∃ o3 o4, m' = [(Str.ofString "R", some (.ref G.x)), (Str.ofString "names", some (.ref an)), (Str.ofString "caps", some (.ref ac)), (Str.ofString "u", some (.int i)), (Str.ofString "table", some (.ref t)), (Str.ofString "near", some (.ref (G.sa i))), (Str.ofString "v", o3), (Str.ofString "row", o4)]) ∧ J i j τ) hE ?_ (fun _ _ _ _ => trivial) ?_ ?_))
    · exact rng hJ1 fun a ha => ⟨⟨_, _, rfl⟩, up hJ1 ha⟩
    · rintro j y m' τ it' c'' hc'' hy ⟨⟨o3, o4, rfl⟩, hJ⟩
      obtain ⟨rfl, hj⟩ := upTo_get hy
      have hj' : j < G.n := by omega
      have mc : MatAt τ ac G.n rc cm := hc1.keep fun b vs e => kp hJ e (gd e)
      obtain ⟨kvs, hk, hN⟩ := hJ.2.1
      obtain ⟨ep, hsa⟩ := hN.hsa i hi'
      have han2 := kp hJ han1 (gd han1)
      refine ⟨_, by walk_at "sto", ?_⟩
      refine Es.cons (Ex.ifs (Bt.cmp (Ev.sub (Ev.loc (by walk_at "mem") (Ev.loc (by walk_at "mem") (Su.vec han2 hj' (by omega) (Ev.loc (by walk_at "mem") (Cm.inI hsa (Tr.bool ⟨fun h => ?_, fun h => ?_⟩)))))))))
      · have hm : j ∈ G.S i := (Net.row_key ok hj' fun k => ok.slt i k hi').mp (of_decide_eq_true h)
        have he := hN.hea i j hi' hm
        refine Es.cons (Ex.asg (Ev.sub (Ev.loc (by walk_at "mem") (Ev.sub (Ev.loc (by walk_at "mem") (Ev.loc (by walk_at "mem") (Su.vec han2 hj' (by omega) (Su.dI hsa (Net.row_mem hm) ?_))))))))
        walk_at "stok"
        refine Seq.next (Es.cons (Ex.asgSub (Ev.sub (Ev.loc (by walk_at "mem") (Ev.str (Su.dS (kvs := [(Str.ofString "capacity", .int (c i j)), (Str.ofString "flow", .int (f i j))]) he (by walk_at "mem") ?_))))))
        refine Ev.sub (Ev.loc (by walk_at "mem") (Ev.loc (by walk_at "mem") (Su.vec hJ.1.top hi' (by omega) (Ev.loc (by walk_at "mem") (Si.list (hJ.1.row i hi') (by omega) (by omega) (by rw [vecOf_len]; omega) ?_)))))
        have hrow := hJ.1.row i hi'
        have M1 := hJ.1.set rinj hi' hj' (x := f i j)
        rw [Int.toNat_natCast]
        have ne : ∀ {b : Addr} {x : Cell}, τ b = some x → (∀ l, x ≠ .list l) → b ≠ r i := fun {b x} e n z => by rw [z, hrow] at e; cases e; exact n _ rfl
        have he' : (τ.upd (r i) (.list ((vecOf G.n fun j_1 => .int (T i j i j_1)).set j (.int (f i j))))) (G.ea i j) = some (edge (c i j) (f i j)) := (Sig.upd_ne (ne he (by intros; exact fun e => nomatch e))).trans he
        have mc' : MatAt (τ.upd (r i) (.list ((vecOf G.n fun j_1 => .int (T i j i j_1)).set j (.int (f i j))))) ac G.n rc cm := hc1.keep fun b vs e => (Sig.upd_ne fun z => by rw [z, hr.fresh i hi'] at e; cases e).trans (kp hJ e (gd e))
        refine Seq.next (Es.cons (Ex.ifs (Bt.or (Bt.cmp (Ev.sub (Ev.loc (by walk_at "mem") (Ev.str (Su.dS (kvs := [(Str.ofString "capacity", .int (c i j)), (Str.ofString "flow", .int (f i j))]) he' (by walk_at "mem") (Ev.mat mc' (Ev.loc (by walk_at "mem")) (Ev.loc (by walk_at "mem")) (Ev.loc (by walk_at "mem")) hi' hj' (by omega) (Cm.ne ?_))))))))))
        rw [hcm i j hi' hm, decide_eq_true rfl]
        refine Tr.bool (tF (Bt.or (Bt.cmp (Ev.sub (Ev.loc (by walk_at "mem") (Ev.str (Su.dS (kvs := [(Str.ofString "capacity", .int (c i j)), (Str.ofString "flow", .int (f i j))]) he' (by walk_at "mem") (Ev.sub (Ev.loc (by walk_at "mem") (Ev.str (Su.dS (kvs := [(Str.ofString "capacity", .int (c i j)), (Str.ofString "flow", .int (f i j))]) he' (by walk_at "mem") (Cm.gt ?_))))))))))))
        have hle' := hcap i j hi' hm
        rw [decide_eq_false (by omega)]
        refine Tr.bool (tF (Bt.or_nil (tF (Es.nil (Seq.next (Es.nil (Seq.next (Es.nil ⟨⟨_, _, rfl⟩, M1.congr fun a b ha hb => ?_, hJ.2.1.list hrow, Sig.But.upd hJ.2.2 ?_⟩))))))))
        · show set2 (T i j) i j (f i j) a b = if a < i ∨ (a = i ∧ b < j + 1) then f a b else 0
          by_cases e : a = i ∧ b = j
          · rw [e.1, e.2, set2_self, if_pos (by omega)]
          · rw [set2_ne e]
            show (if a < i ∨ (a = i ∧ b < j) then f a b else 0) = _
            by_cases h1 : a < i ∨ (a = i ∧ b < j)
            · rw [if_pos h1, if_pos (by omega)]
            · rw [if_neg h1, if_neg (by omega)]
        · exact .tail _ (.tail _ (List.mem_map_of_mem (List.mem_range.mpr hi')))
      · have hm : j ∉ G.S i := fun z => of_decide_eq_false h ((Net.row_key ok hj' fun k => ok.slt i k hi').mpr z)
        obtain ⟨h1, h2⟩ := hno i j hi' hj' hm
        refine Es.cons (Ex.ifs (Bt.cmp (Ev.mat mc (Ev.loc (by walk_at "mem")) (Ev.loc (by walk_at "mem")) (Ev.loc (by walk_at "mem")) hi' hj' (by omega) (Ev.int (Cm.gt ?_)))))
        rw [decide_eq_false (by omega)]
        refine Tr.bool (tF (Es.nil (Seq.next (Es.nil (Seq.next (Es.nil ⟨⟨_, _, rfl⟩, hJ.1.congr fun a b ha hb => ?_, hJ.2.1, hJ.2.2⟩))))))
        show (if a < i ∨ (a = i ∧ b < j) then f a b else 0) = if a < i ∨ (a = i ∧ b < j + 1) then f a b else 0
        by_cases e : a = i ∧ b = j
        · rw [e.1, e.2, if_neg (by omega), if_pos (by omega), h2]
        · by_cases h1 : a < i ∨ (a = i ∧ b < j)
          · rw [if_pos h1, if_pos (by omega)]
          · rw [if_neg h1, if_neg (by omega)]
    · rintro m' τ ⟨⟨o3, o4, rfl⟩, hJ⟩
      rw [upTo_len, Int.toNat_natCast] at hJ
      refine Seq.next (Es.nil ⟨⟨_, _, _, _, rfl⟩, hJ.1.congr fun a b ha hb => ?_, hJ.2.1, hJ.2.2⟩)
      show (if a < i ∨ (a = i ∧ b < G.n) then f a b else 0) = if a < i + 1 ∨ (a = i + 1 ∧ b < 0) then f a b else 0
      by_cases h1 : a < i ∨ (a = i ∧ b < G.n)
      · rw [if_pos h1, if_pos (by omega)]
      · rw [if_neg h1, if_neg (by omega)]
  · rintro m' τ ⟨⟨o1, o2, o3, o4, rfl⟩, hJ⟩
    rw [upTo_len, Int.toNat_natCast] at hJ
    refine Seq.next (Es.cons (Ex.ret (Ev.loc (by walk_at "mem") (q t r τ (hJ.1.congr fun a b ha hb => ?_) hJ.2.1 ?_))))
    · show (if a < G.n ∨ (a = G.n ∧ b < 0) then f a b else 0) = _
      rw [if_pos (.inl ha)]
    · intro a x e n
      have e1 := b1 _ _ e List.not_mem_nil
      exact kp hJ e1 fun z => n (by rw [z]; exact .head _)
end
noncomputable def rowSum (n : Nat) (M : Nat → Nat → Int) (u : Nat) : Int := ((List.range n).map (M u)).sum
theorem vecOf_ints {n : Nat} {g : Nat → Int} : (vecOf n fun j => .int (g j)) = ((List.range n).map g).map Val.int := by rw [List.map_map]; rfl
theorem MatAt.row' {σ : Sig} {a : Addr} {n : Nat} {r : Nat → Addr} {M : Nat → Nat → Int} (h : MatAt σ a n r M) {i : Nat} (hi : i < n) : σ (r i) = some (.list (((List.range n).map (M i)).map Val.int)) := by
  rw [h.row i hi, vecOf_ints]
section
variable {B : Bd} {φ : Phi} {A : Around} {σ : Sig} {E : Value → Shared → Prop}
theorem added_spec {n s t : Nat} {told : Int} {ao an : Addr} {ro rn : Nat → Addr} {O M : Nat → Nat → Int} {Q : Val → Sig → Prop} (hA : AOk A 4) (hn : n ≤ 10) (hO : MatAt σ ao n ro O) (hM : MatAt σ an n rn M)
    (bO : ∀ i j, -(2 ^ 40) ≤ O i j ∧ O i j ≤ 2 ^ 40) (bM : ∀ i j, -(2 ^ 40) ≤ M i j ∧ M i j ≤ 2 ^ 40)
    (hs : ∀ u, u < n → rowSum n M u - rowSum n O u = if u = s then told else if u = t then -told else 0) (hanti : ∀ u v, u < n → v < n → M u v = - M v u)
    (q : ∀ σ', σ.But σ' [] → Q (.bool true) σ') :
    Cl B φ A (.ref 741) [.int n, .ref ao, .ref an, .int s, .int t, .int told] [] σ Q E := by
  refine Cl.defK (k := 3) (ls := [Str.ofString "n", Str.ofString "old", Str.ofString "s", Str.ofString "t", Str.ofString "told"]) (gl := [(Str.ofString "range", .type "range"), (Str.ofString "sum", .builtin "sum")])
    (ps := [Str.ofString "n", Str.ofString "old", Str.ofString "new", Str.ofString "s", Str.ofString "t", Str.ofString "told"]) hA rfl rfl (by kernel_rfl) rfl (hb6 fun _ _ _ _ _ _ => rfl) (by kernel_rfl) (by decide +kernel) (by walk_at "gl") ?_
  intro env A' E' as hA' eA eE hE hlen hfr
  obtain ⟨cn, cu, rfl⟩ : ∃ a b, as = [a, b] := hb2 (P := fun as => ∃ a b, as = [a, b]) (fun a b => ⟨a, b, rfl⟩) as hlen
  have hcn : σ cn = none := hfr.1
  have hcu : (σ.upd cn (.cel none)) cu = none := hfr.2.1
  obtain ⟨cuc, hcu'⟩ := Sig.upd_none hcu
  clear hlen hfr eA eE hA
  refine .inl ⟨_, .head, .inl ⟨_, .tail .head, .inr ⟨cn, none, .head _, (Sig.upd_ne cuc.symm).trans Sig.upd_self, .inl ⟨_, .tail (.tail .head), .inl ⟨_, .tail (.tail (.tail .head)), .inl ⟨_, .tail (.tail (.tail (.tail .head))), BindK.nil ?_⟩⟩⟩⟩⟩⟩
  show Es B φ A' ⟨env, [(Str.ofString "new", cn), (Str.ofString "u", cu)], _⟩ [(Str.ofString "n", some (.int n)), (Str.ofString "old", some (.ref ao)), (Str.ofString "s", some (.int s)), (Str.ofString "t", some (.int t)), (Str.ofString "told", some (.int told))] (bodyOf B.w 741) (((σ.upd cn (.cel none)).upd cu (.cel none)).upd cn (.cel (some (.ref an)))) _ E'
  have b0 : σ.But (((σ.upd cn (.cel none)).upd cu (.cel none)).upd cn (.cel (some (.ref an)))) [] := Sig.But.new (Sig.But.new (Sig.But.new Sig.But.refl hcn) hcu') hcn
  let J : Sig → Prop := fun τ => σ.But τ [] ∧ τ cn = some (.cel (some (.ref an))) ∧ ∃ o, τ cu = some (.cel o)
  have J0 : J (((σ.upd cn (.cel none)).upd cu (.cel none)).upd cn (.cel (some (.ref an)))) := ⟨b0, Sig.upd_self, none, (Sig.upd_ne cuc).trans Sig.upd_self⟩
  have up : ∀ {τ : Sig} {a : Addr} {x : Cell}, J τ → τ a = none → J (τ.upd a x) := fun {τ a x} ⟨h1, h2, o, h3⟩ ha => ⟨Sig.But.fresh h1 ha, (Sig.upd_ne (Sig.ne h2 ha)).trans h2, o, (Sig.upd_ne (Sig.ne h3 ha)).trans h3⟩
  refine Es.cons (Ex.forC (vs := upTo n) (R := fun _ => True) (fun i m' τ => m' = [(Str.ofString "n", some (.int n)), (Str.ofString "old", some (.ref ao)), (Str.ofString "s", some (.int s)), (Str.ofString "t", some (.int t)), (Str.ofString "told", some (.int told))] ∧ J τ) hE ?_ (fun _ _ _ _ => trivial) ?_ ?_)
  · exact Ev.callG (by walk_at "mem") (El.cons (Ev.loc (by walk_at "mem") (El.nil (Ek.nil ⟨Kp.ty, Cl.range fun a ha => It.range Sig.upd_self (by omega) (by omega) ⟨rfl, up J0 ha⟩⟩))))
  · rintro i y m' τ it c' hc' hy ⟨rfl, hJ⟩
    obtain ⟨rfl, hi⟩ := upTo_get hy
    have hi' : i < n := by omega
    obtain ⟨h1, h2, o, h3⟩ := hJ
    refine ⟨cu, o, by walk_at "mem", h3, ?_⟩
    have k1 : (τ.upd cu (.cel (some (.int i)))) cn = some (.cel (some (.ref an))) := (Sig.upd_ne cuc.symm).trans h2
    have k2 : (τ.upd cu (.cel (some (.int i)))) cu = some (.cel (some (.int i))) := Sig.upd_self
    have k3 : σ.But (τ.upd cu (.cel (some (.int i)))) [] := Sig.But.new h1 hcu'
    generalize (τ.upd cu (.cel (some (.int i)))) = υ at k1 k2 k3 ⊢
    have mO := hO.keep fun b vs e => k3 b _ e List.not_mem_nil
    have mM := hM.keep fun b vs e => k3 b _ e List.not_mem_nil
    have bd : ∀ (X : Nat → Nat → Int), (∀ i j, -(2 ^ 40) ≤ X i j ∧ X i j ≤ 2 ^ 40) → ∀ x ∈ (List.range n).map (X i), -(2 ^ 40) ≤ x ∧ x ≤ 2 ^ 40 := fun X h x hx => by
      obtain ⟨j, _, rfl⟩ := List.mem_map.mp hx; exact h i j
    refine Es.cons (Ex.ifs (Bt.cmp (Ev.bin (Ev.callG (by walk_at "mem") (El.cons (Ev.sub (Ev.cel (by walk_at "mem") k1 (Ev.cel (by walk_at "mem") k2 (Su.vec mM.top hi' (by omega) (El.nil (Ek.nil ⟨Kp.bi, Cl.sum (mM.row' hi') (by rw [List.length_map, List.length_range]; omega) (bd M bM) ?_⟩)))))))))))
    refine Ev.callG (by walk_at "mem") (El.cons (Ev.sub (Ev.loc (by walk_at "mem") (Ev.cel (by walk_at "mem") k2 (Su.vec mO.top hi' (by omega) (El.nil (Ek.nil ⟨Kp.bi, Cl.sum (mO.row' hi') (by rw [List.length_map, List.length_range]; omega) (bd O bO) (Bn.sub ?_)⟩)))))))
    refine Ev.mono (Q := fun v τ' => v = .int (if i = s then told else if i = t then -told else 0) ∧ τ' = υ) ?_ ?_
    · refine Ev.ife (Bt.cmp (Ev.cel (by walk_at "mem") k2 (Ev.loc (by walk_at "mem") (Cm.eq (Tr.bool ⟨fun h => ?_, fun h => ?_⟩)))))
      · have e : i = s := by have := of_decide_eq_true h; omega
        exact Ev.loc (by walk_at "mem") ⟨by rw [if_pos e], rfl⟩
      · have e : i ≠ s := by have := of_decide_eq_false h; omega
        refine Ev.ife (Bt.cmp (Ev.cel (by walk_at "mem") k2 (Ev.loc (by walk_at "mem") (Cm.eq (Tr.bool ⟨fun h => ?_, fun h => ?_⟩)))))
        · have e' : i = t := by have := of_decide_eq_true h; omega
          exact Ev.un (Ev.loc (by walk_at "mem") (Un.neg ⟨by rw [if_neg e, if_pos e'], rfl⟩))
        · have e' : i ≠ t := by have := of_decide_eq_false h; omega
          exact Ev.int ⟨by rw [if_neg e, if_neg e'], rfl⟩
    rintro v τ' ⟨rfl, rfl⟩
    have hsum := hs i hi'
    unfold rowSum at hsum
    refine Cm.ne ?_
    rw [hsum, decide_eq_true rfl]
    refine Tr.bool (tF (Es.nil (Seq.next ?_)))
    refine Es.cons (Ex.ifs (Bt.cmp (Ev.comp (ls := [Str.ofString "v"]) (fr := [(Str.ofString "new", cn), (Str.ofString "u", cu)]) (gl := []) (vs := upTo n) (R := fun _ => True) (P := fun ys τ => ys = [] ∧ σ.But τ [] ∧ τ cn = some (.cel (some (.ref an))) ∧ τ cu = some (.cel (some (.int i)))) (by kernel_rfl) (fun q hq => hq) (fun _ h => nomatch h) ?_ ?_)))
    · refine Ev.callG (by walk_at "mem") (El.cons (Ev.loc (by walk_at "mem") (El.nil (Ek.nil ⟨Kp.ty, Cl.range fun a ha => It.range Sig.upd_self (by omega) (by omega) ?_⟩))))
      refine CompLoop.one (o := some _) (I := fun k ys τ => ys = [] ∧ σ.But τ [] ∧ τ cn = some (.cel (some (.ref an))) ∧ τ cu = some (.cel (some (.int i)))) rfl (fun _ _ _ _ => trivial) ?_ ?_ ?_ (fun _ _ h => h)
      · rintro k ys τ ⟨rfl, _⟩; exact Nat.zero_le _
      · exact ⟨rfl, Sig.But.fresh k3 ha, (Sig.upd_ne (Sig.ne k1 ha)).trans k1, (Sig.upd_ne (Sig.ne k2 ha)).trans k2⟩
      · rintro k y ys τ φ' env' E'' hy ⟨rfl, l3, l1, l2⟩
        obtain ⟨rfl, hk⟩ := upTo_get hy
        have hk' : k < n := by omega
        have mM' := hM.keep fun b vs e => l3 b _ e List.not_mem_nil
        refine Bt.cmp (Ev.mat mM' (Ev.cel (.head _) l1) (Ev.cel (.tail _ (.head _)) l2) (Ev.loc (.head _)) hi' hk' (by omega) (Ev.un (Ev.mat mM' (Ev.cel (.head _) l1) (Ev.loc (.head _)) (Ev.cel (.tail _ (.head _)) l2) hk' hi' (by omega) (Un.neg (Cm.ne ?_)))))
        rw [decide_eq_true (hanti i k hi' hk')]
        exact Tr.bool ⟨fun e => (nomatch e), fun _ => ⟨rfl, l3, l1, l2⟩⟩
    · rintro ys τ a ⟨rfl, l3, l1, l2⟩ ha'
      refine Ev.list (El.nil ⟨by simp, fun b hb => ?_⟩)
      obtain ⟨hab, hb'⟩ := Sig.upd_none hb
      refine Cm.neInts (ns := []) (ms := []) (hA'.le (by decide)) ((Sig.upd_ne hab.symm).trans Sig.upd_self) Sig.upd_self ?_
      rw [decide_eq_true rfl]
      refine Tr.bool (tF (Es.nil (Seq.next (Es.nil ⟨rfl, ?_⟩))))
      exact up (up ⟨l3, l1, _, l2⟩ ha') hb
  · rintro m' τ ⟨rfl, hJ⟩
    exact Seq.next (Es.cons (Ex.ret (Ev.bool (q τ hJ.1))))
end
theorem noPylong {x y : Int} (h : y.natAbs < 2 ^ 30) : Builtin.divisionGoesByPylong x y = false := by
  have h2 : y.natAbs.log2 < 30 := by
    by_cases e : y.natAbs = 0
    · rw [e]; decide
    · exact (Nat.log2_lt e).mpr h
  unfold Builtin.divisionGoesByPylong
  have : (if (y == 0) = true then 0 else y.natAbs.log2 / 30 + 1) ≤ 1 := by
    split
    · omega
    · have : y.natAbs.log2 / 30 = 0 := Nat.div_eq_of_lt h2
      omega
  dsimp only
  rw [decide_eq_false (by omega), Bool.false_and]
noncomputable def bitOf (j k : Nat) : Nat := j / 2 ^ k % 2
/-- the numbers that cross from X, row by row -/
noncomputable def rowL (C : Nat → Nat → Int) (X : Nat → Bool) (u k : Nat) : List Int := (List.range k).flatMap fun v => if X u && !X v then [C u v] else []
noncomputable def cutL (C : Nat → Nat → Int) (X : Nat → Bool) (n i : Nat) : List Int := (List.range i).flatMap fun u => rowL C X u n
noncomputable abbrev cutV (n : Nat) (C : Nat → Nat → Int) (X : Nat → Bool) : Int := (cutL C X n n).sum
theorem rowL_succ {C : Nat → Nat → Int} {X : Nat → Bool} {u k : Nat} : rowL C X u (k + 1) = rowL C X u k ++ (if X u && !X k then [C u k] else []) := by
  unfold rowL; rw [List.range_succ, List.flatMap_append]; simp
theorem cutL_succ {C : Nat → Nat → Int} {X : Nat → Bool} {n i : Nat} : cutL C X n (i + 1) = cutL C X n i ++ rowL C X i n := by
  unfold cutL; rw [List.range_succ, List.flatMap_append]; simp
theorem rowL_len {C : Nat → Nat → Int} {X : Nat → Bool} {u : Nat} : ∀ k, (rowL C X u k).length ≤ k
  | 0 => Nat.le_refl _
  | k + 1 => by
    rw [rowL_succ, List.length_append]
    have := rowL_len (C := C) (X := X) (u := u) k
    split <;> simp <;> omega
theorem cutL_len {C : Nat → Nat → Int} {X : Nat → Bool} {n : Nat} : ∀ i, (cutL C X n i).length ≤ n * i
  | 0 => Nat.zero_le _
  | i + 1 => by
    rw [cutL_succ, List.length_append]
    have := cutL_len (C := C) (X := X) (n := n) i
    have := rowL_len (C := C) (X := X) (u := i) n
    rw [Nat.mul_succ]; omega
theorem rowL_mem {C : Nat → Nat → Int} {X : Nat → Bool} {u k : Nat} {x : Int} (h : x ∈ rowL C X u k) : ∃ v, x = C u v := by
  unfold rowL at h
  obtain ⟨v, _, h⟩ := List.mem_flatMap.mp h
  split at h
  · exact ⟨v, List.mem_singleton.mp h⟩
  · cases h
theorem cutL_mem {C : Nat → Nat → Int} {X : Nat → Bool} {n i : Nat} {x : Int} (h : x ∈ cutL C X n i) : ∃ u v, x = C u v := by
  unfold cutL at h
  obtain ⟨u, _, h⟩ := List.mem_flatMap.mp h
  exact ⟨u, rowL_mem h⟩
/-- the best so far -/
noncomputable def Best (n : Nat) (C : Nat → Nat → Int) (s t i : Nat) (v : Val) : Prop :=
  (v = .none ∧ ∀ j, j < i → ¬ (bitOf j s = 1 ∧ bitOf j t = 0)) ∨
  ∃ b : Int, v = .int b ∧ (∃ j, j < i ∧ (bitOf j s = 1 ∧ bitOf j t = 0) ∧ b = cutV n C (fun k => bitOf j k == 1)) ∧ ∀ j, j < i → (bitOf j s = 1 ∧ bitOf j t = 0) → b ≤ cutV n C (fun k => bitOf j k == 1)
section
variable {B : Bd} {φ : Phi} {A : Around} {σ : Sig} {E : Value → Shared → Prop}
theorem least_spec {n s t : Nat} {ar : Addr} {rr : Nat → Addr} {C : Nat → Nat → Int} {Q : Val → Sig → Prop} (hA : AOk A 4) (hn : n ≤ 10) (hs : s < n) (ht : t < n) (hC : MatAt σ ar n rr C) (bC : ∀ i j, -(2 ^ 40) ≤ C i j ∧ C i j ≤ 2 ^ 40)
    (q : ∀ v σ', Best n C s t (2 ^ n) v → σ.But σ' [] → Q v σ') :
    Cl B φ A (.ref 724) [.int n, .ref ar, .int s, .int t] [] σ Q E := by
  have p2 : (2 : Nat) ^ n ≤ 2 ^ 10 := Nat.pow_le_pow_right (by decide) hn
  obtain ⟨W, hW⟩ : ∃ W : Nat, 2 ^ n = W := ⟨_, rfl⟩
  rw [hW] at p2 q
  refine Cl.defK (k := 3) (ls := [Str.ofString "s", Str.ofString "t", Str.ofString "best", Str.ofString "across"]) (gl := [(Str.ofString "range", .type "range"), (Str.ofString "sum", .builtin "sum")])
    (ps := [Str.ofString "n", Str.ofString "rooms", Str.ofString "s", Str.ofString "t"]) hA rfl rfl (by kernel_rfl) rfl (hb4 fun _ _ _ _ => rfl) (by kernel_rfl) (by decide +kernel) (by walk_at "gl") ?_
  intro env A' E' as hA' eA eE hE hlen hfr
  obtain ⟨cn, cr, cm, cs, rfl⟩ : ∃ a b c d, as = [a, b, c, d] := hb4 (P := fun as => ∃ a b c d, as = [a, b, c, d]) (fun a b c d => ⟨a, b, c, d, rfl⟩) as hlen
  obtain ⟨hcn, hcr, hcm, hcs, -⟩ := hfr
  obtain ⟨n1, hcr⟩ := Sig.upd_none hcr
  obtain ⟨n2, hcm⟩ := Sig.upd_none hcm
  obtain ⟨n3, hcm⟩ := Sig.upd_none hcm
  obtain ⟨n4, hcs⟩ := Sig.upd_none hcs
  obtain ⟨n5, hcs⟩ := Sig.upd_none hcs
  obtain ⟨n6, hcs⟩ := Sig.upd_none hcs
  clear hlen eA eE hA
  refine .inr ⟨cn, none, .head _, ?_, .inr ⟨cr, none, .tail _ (.head _), ?_, .inl ⟨_, .head, .inl ⟨_, .tail .head, BindK.nil ?_⟩⟩⟩⟩
  · show ((((σ.upd cn (.cel none)).upd cr (.cel none)).upd cm (.cel none)).upd cs (.cel none)) cn = _
    walk_at "look"
  · show (((((σ.upd cn (.cel none)).upd cr (.cel none)).upd cm (.cel none)).upd cs (.cel none)).upd cn (.cel (some (.int n)))) cr = _
    walk_at "look"
  show Es B φ A' ⟨env, [(Str.ofString "n", cn), (Str.ofString "rooms", cr), (Str.ofString "number", cm), (Str.ofString "side", cs)], _⟩ [(Str.ofString "s", some (.int s)), (Str.ofString "t", some (.int t)), (Str.ofString "best", none), (Str.ofString "across", none)] (bodyOf B.w 724) ((((((σ.upd cn (.cel none)).upd cr (.cel none)).upd cm (.cel none)).upd cs (.cel none)).upd cn (.cel (some (.int n)))).upd cr (.cel (some (.ref ar)))) _ E'
  let J : Sig → Prop := fun τ => σ.But τ [] ∧ τ cn = some (.cel (some (.int n))) ∧ τ cr = some (.cel (some (.ref ar))) ∧ (∃ o, τ cm = some (.cel o)) ∧ ∃ o, τ cs = some (.cel o)
  have J0 : J ((((((σ.upd cn (.cel none)).upd cr (.cel none)).upd cm (.cel none)).upd cs (.cel none)).upd cn (.cel (some (.int n)))).upd cr (.cel (some (.ref ar)))) := by
    refine ⟨Sig.But.new (Sig.But.new (Sig.But.new (Sig.But.new (Sig.But.new (Sig.But.new Sig.But.refl hcn) hcr) hcm) hcs) hcn) hcr, by walk_at "look", by walk_at "look", ⟨none, by walk_at "look"⟩, none, by walk_at "look"⟩
  have up : ∀ {τ : Sig} {a : Addr} {x : Cell}, J τ → τ a = none → J (τ.upd a x) := fun {τ a x} ⟨h1, h2, h3, ⟨o, h4⟩, o', h5⟩ ha =>
    ⟨Sig.But.fresh h1 ha, (Sig.upd_ne (Sig.ne h2 ha)).trans h2, (Sig.upd_ne (Sig.ne h3 ha)).trans h3, ⟨o, (Sig.upd_ne (Sig.ne h4 ha)).trans h4⟩, o', (Sig.upd_ne (Sig.ne h5 ha)).trans h5⟩
  generalize ((((((σ.upd cn (.cel none)).upd cr (.cel none)).upd cm (.cel none)).upd cs (.cel none)).upd cn (.cel (some (.int n)))).upd cr (.cel (some (.ref ar)))) = σ₁ at J0 ⊢
  refine Es.cons (Ex.asg (Ev.none ?_))
  walk_at "stok"
  refine Seq.next ?_
  refine Es.cons (Ex.forC (vs := upTo (W : Int)) (R := fun _ => True) (fun i m' τ => (∃ v o, m' = [(Str.ofString "s", some (.int s)), (Str.ofString "t", some (.int t)), (Str.ofString "best", some v), (Str.ofString "across", o)] ∧ Best n C s t i v) ∧ J τ) hE ?_ (fun _ _ _ _ => trivial) ?_ ?_)
  · refine Ev.callG (by walk_at "mem") (El.cons (Ev.bin (Ev.int (Ev.cel (by walk_at "mem") J0.2.1 (Bn.pow (by omega) ?_ ?_)))))
    · have : Builtin.Int.intBits 2 = 2 := by decide
      rw [this]; omega
    · have e : ((2 : Int) ^ (n : Int).toNat) = (W : Int) := by rw [Int.toNat_natCast, ← hW]; push_cast; rfl
      rw [e]
      exact El.nil (Ek.nil ⟨Kp.ty, Cl.range fun a ha => It.range Sig.upd_self (by omega) (by omega) ⟨⟨_, _, rfl, .inl ⟨rfl, fun j h => absurd h (Nat.not_lt_zero _)⟩⟩, up J0 ha⟩⟩)
  · rintro i y m' τ it c' hc' hy ⟨⟨v, o, rfl, hv⟩, hJ⟩
    obtain ⟨rfl, hi⟩ := upTo_get hy
    have hi' : i < W := by omega
    obtain ⟨h1, h2, h3, ⟨o1, h4⟩, o2, h5⟩ := hJ
    refine ⟨cm, o1, by walk_at "mem", h4, ?_⟩
    have k1 : (τ.upd cm (.cel (some (.int i)))) cn = some (.cel (some (.int n))) := by walk_at "look"
    have k2 : (τ.upd cm (.cel (some (.int i)))) cr = some (.cel (some (.ref ar))) := by walk_at "look"
    have k3 : (τ.upd cm (.cel (some (.int i)))) cm = some (.cel (some (.int i))) := Sig.upd_self
    have k4 : (τ.upd cm (.cel (some (.int i)))) cs = some (.cel o2) := by walk_at "look"
    have k5 : σ.But (τ.upd cm (.cel (some (.int i)))) [] := Sig.But.new h1 hcm
    generalize (τ.upd cm (.cel (some (.int i)))) = υ at k1 k2 k3 k4 k5 ⊢
    let P : List Val → Sig → Prop := fun ys τ => ys = (vecOf n fun k => .int (bitOf i k)) ∧ σ.But τ [] ∧ τ cn = some (.cel (some (.int n))) ∧ τ cr = some (.cel (some (.ref ar))) ∧ τ cm = some (.cel (some (.int i))) ∧ τ cs = some (.cel o2)
    refine Es.cons (Ex.asgCompC (c := cs) (by walk_at "mem") (Ev.comp (ls := [Str.ofString "k"]) (fr := [(Str.ofString "number", cm)]) (gl := []) (vs := upTo n) (R := fun _ => True) (P := P) (by kernel_rfl) (fun q hq => by rw [List.mem_singleton.mp hq]; walk_at "mem") (fun _ h => nomatch h) ?_ ?_))
    · refine Ev.callG (by walk_at "mem") (El.cons (Ev.cel (by walk_at "mem") k1 (El.nil (Ek.nil ⟨Kp.ty, Cl.range fun a ha => It.range Sig.upd_self (by omega) (by omega) ?_⟩))))
      refine CompLoop.one (o := Option.none) (I := fun k ys τ => k ≤ n ∧ ys = (vecOf k fun k => .int (bitOf i k)) ∧ σ.But τ [] ∧ τ cn = some (.cel (some (.int n))) ∧ τ cr = some (.cel (some (.ref ar))) ∧ τ cm = some (.cel (some (.int i))) ∧ τ cs = some (.cel o2)) rfl (fun _ _ _ _ => trivial) ?_ ?_ ?_ ?_
      · rintro k ys τ ⟨hk, rfl, _⟩; rw [vecOf_len]; omega
      · exact ⟨Nat.zero_le _, rfl, Sig.But.fresh k5 ha, (Sig.upd_ne (Sig.ne k1 ha)).trans k1, (Sig.upd_ne (Sig.ne k2 ha)).trans k2, (Sig.upd_ne (Sig.ne k3 ha)).trans k3, (Sig.upd_ne (Sig.ne k4 ha)).trans k4⟩
      · rintro k y ys τ φ' env' E'' hy ⟨_, rfl, l1, l2, l3, l4, l5⟩
        obtain ⟨rfl, hk⟩ := upTo_get hy
        have hk' : k < n := by omega
        have p3 : (2 : Nat) ^ k ≤ 2 ^ 10 := Nat.pow_le_pow_right (by decide) (by omega)
        have p4 : 0 < (2 : Nat) ^ k := Nat.pow_pos (by decide)
        have e : ((2 : Int) ^ (k : Int).toNat) = ((2 ^ k : Nat) : Int) := by rw [Int.toNat_natCast]; push_cast; rfl
        refine ⟨fun _ => ?_, fun e => (nomatch e)⟩
        refine Ev.bin (Ev.bin (Ev.cel (.head _) l4 (Ev.bin (Ev.int (Ev.loc (.head _) (Bn.pow (by omega) ?_ ?_))))))
        · have : Builtin.Int.intBits 2 = 2 := by decide
          rw [this]; omega
        rw [e]
        refine Bn.fdiv (by omega) (noPylong (by omega)) (Ev.int (Bn.mod (by decide) ?_))
        refine ⟨by omega, ?_, l1, l2, l3, l4, l5⟩
        have e3 : ((i : Int).fdiv ((2 ^ k : Nat) : Int)).fmod 2 = ((bitOf i k : Nat) : Int) := by unfold bitOf; rw [← Int.ofNat_fdiv, Int.fmod_eq_emod_of_nonneg _ (by decide)]; rfl
        rw [vecOf_succ, e3]
      · rintro ys τ ⟨_, e, h⟩
        rw [upTo_len, Int.toNat_natCast] at e
        exact ⟨e, h⟩
    rintro ys τ a ⟨rfl, l1, l2, l3, l4, l5⟩ ha
    have sl : (τ.upd a (.list (vecOf n fun k => .int (bitOf i k)))) a = some (.list (vecOf n fun k => .int (bitOf i k))) := Sig.upd_self
    refine ⟨o2, (Sig.upd_ne (Sig.ne l5 ha)).trans l5, Seq.next ?_⟩
    have acs : a ≠ cs := (Sig.ne l5 ha).symm
    have rn1 := rr
    have m1 : ((τ.upd a (.list (vecOf n fun k => .int (bitOf i k)))).upd cs (.cel (some (.ref a)))) cn = some (.cel (some (.int n))) := by
      rw [Sig.upd_ne n6.symm, Sig.upd_ne (Sig.ne l2 ha)]; exact l2
    have m2 : ((τ.upd a (.list (vecOf n fun k => .int (bitOf i k)))).upd cs (.cel (some (.ref a)))) cr = some (.cel (some (.ref ar))) := by
      rw [Sig.upd_ne n5.symm, Sig.upd_ne (Sig.ne l3 ha)]; exact l3
    have m3 : ((τ.upd a (.list (vecOf n fun k => .int (bitOf i k)))).upd cs (.cel (some (.ref a)))) cm = some (.cel (some (.int i))) := by
      rw [Sig.upd_ne n4.symm, Sig.upd_ne (Sig.ne l4 ha)]; exact l4
    have m4 : ((τ.upd a (.list (vecOf n fun k => .int (bitOf i k)))).upd cs (.cel (some (.ref a)))) cs = some (.cel (some (.ref a))) := Sig.upd_self
    have m5 : ((τ.upd a (.list (vecOf n fun k => .int (bitOf i k)))).upd cs (.cel (some (.ref a)))) a = some (.list (vecOf n fun k => .int (bitOf i k))) := (Sig.upd_ne acs).trans Sig.upd_self
    have m6 : σ.But ((τ.upd a (.list (vecOf n fun k => .int (bitOf i k)))).upd cs (.cel (some (.ref a)))) [] := Sig.But.new (Sig.But.fresh l1 ha) hcs
    generalize ((τ.upd a (.list (vecOf n fun k => .int (bitOf i k)))).upd cs (.cel (some (.ref a)))) = ρ at m1 m2 m3 m4 m5 m6 ⊢
    have bit2 : ∀ k, bitOf i k < 2 := fun k => Nat.mod_lt _ (by decide)
    let X : Nat → Bool := fun k => bitOf i k == 1
    have Xt : ∀ k, (bitOf i k = 1) ↔ X k = true := fun k => by show _ ↔ (bitOf i k == 1) = true; rw [beq_iff_eq]
    refine Es.cons (Ex.ifs (Bt.mono (Q := fun b τ' => b = decide (bitOf i s = 1 ∧ bitOf i t = 0) ∧ τ' = ρ) ?_ ?_))
    · refine Bt.and (Bt.cmp (Ev.sub (Ev.cel (by walk_at "mem") m4 (Ev.loc (by walk_at "mem") (Su.vec m5 hs (by omega) (Ev.int (Cm.eq (Tr.bool ⟨fun h => ?_, fun h => ⟨?_, rfl⟩⟩))))))))
      · refine Bt.and (Bt.cmp (Ev.sub (Ev.cel (by walk_at "mem") m4 (Ev.loc (by walk_at "mem") (Su.vec m5 ht (by omega) (Ev.int (Cm.eq (Tr.bool ⟨fun h' => Bt.and_nil ⟨?_, rfl⟩, fun h' => ⟨?_, rfl⟩⟩))))))))
        · have h1 := of_decide_eq_true h; have h2 := of_decide_eq_true h'
          exact (decide_eq_true ⟨by omega, by omega⟩).symm
        · have h2 := of_decide_eq_false h'
          exact (decide_eq_false fun z => h2 (by omega)).symm
      · have h2 := of_decide_eq_false h
        exact (decide_eq_false fun z => h2 (by omega)).symm
    rintro b τ' ⟨rfl, rfl⟩
    refine ⟨fun h => ?_, fun h => ?_⟩
    · have hsel := of_decide_eq_true h
      let H : Sig → Prop := fun τ => σ.But τ [] ∧ τ cn = some (.cel (some (.int n))) ∧ τ cr = some (.cel (some (.ref ar))) ∧ τ cm = some (.cel (some (.int i))) ∧ τ cs = some (.cel (some (.ref a))) ∧ τ a = some (.list (vecOf n fun k => .int (bitOf i k)))
      have Hup : ∀ {τ : Sig} {b : Addr} {x : Cell}, H τ → τ b = none → H (τ.upd b x) := fun {τ b x} ⟨h1, h2, h3, h4, h5, h6⟩ hb =>
        ⟨Sig.But.fresh h1 hb, (Sig.upd_ne (Sig.ne h2 hb)).trans h2, (Sig.upd_ne (Sig.ne h3 hb)).trans h3, (Sig.upd_ne (Sig.ne h4 hb)).trans h4, (Sig.upd_ne (Sig.ne h5 hb)).trans h5, (Sig.upd_ne (Sig.ne h6 hb)).trans h6⟩
      have H0 : H τ' := ⟨m6, m1, m2, m3, m4, m5⟩
      refine Es.cons (Ex.asg (Ev.callG (by walk_at "mem") (El.cons (Ev.comp (ls := [Str.ofString "u", Str.ofString "v"]) (fr := [(Str.ofString "n", cn), (Str.ofString "rooms", cr), (Str.ofString "side", cs)]) (gl := [(Str.ofString "range", .type "range")]) (vs := upTo n) (R := fun _ => True) (P := fun ys τ => ys = (cutL C X n n).map Val.int ∧ H τ) (by kernel_rfl) ?_ (by walk_at "gl") ?_ ?_))))
      · intro q hq
        simp only [List.mem_cons, List.not_mem_nil, or_false] at hq
        rcases hq with rfl | rfl | rfl
        · walk_at "mem"
        · walk_at "mem"
        · walk_at "mem"
      · refine Ev.callG (by walk_at "mem") (El.cons (Ev.cel (by walk_at "mem") m1 (El.nil (Ek.nil ⟨Kp.ty, Cl.range fun b hb => It.range Sig.upd_self (by omega) (by omega) ?_⟩))))
        refine CompLoop.two (o := some _) (vs1 := upTo n) (R1 := fun _ => True) (fun i' j' ys τ => (i' < n ∨ (i' = n ∧ j' = 0)) ∧ j' ≤ n ∧ ys = (cutL C X n i' ++ rowL C X i' j').map Val.int ∧ H τ) rfl (fun _ _ _ _ => trivial) (fun _ _ _ _ _ => trivial) ?_ ?_ ?_ ?_ ?_ ?_
        · rintro i' j' ys τ ⟨h1, h2, rfl, _⟩
          rw [List.length_map, List.length_append]
          have a1 := cutL_len (C := C) (X := X) (n := n) i'
          have a2 := rowL_len (C := C) (X := X) (u := i') j'
          have a3 : n * i' ≤ 10 * 10 := Nat.mul_le_mul hn (by omega)
          omega
        · exact ⟨by omega, Nat.zero_le _, rfl, Hup H0 hb⟩
        · rintro i' y ys τ φ' env' w E'' hy ⟨h1, h2, rfl, hH⟩
          exact Ev.callG (by walk_at "mem") (El.cons (Ev.cel (by walk_at "mem") hH.2.1 (El.nil (Ek.nil ⟨Kp.ty, Cl.range fun b hb => It.range Sig.upd_self (by omega) (by omega) ⟨h1, h2, rfl, Hup hH hb⟩⟩))))
        · rintro i' j' y z ys τ φ' env' E'' hy hz ⟨h1, h2, rfl, hH⟩
          obtain ⟨rfl, hi⟩ := upTo_get hy
          obtain ⟨rfl, hj⟩ := upTo_get hz
          have hi2 : i' < n := by omega
          have hj2 : j' < n := by omega
          obtain ⟨g1, g2, g3, g4, g5, g6⟩ := hH
          have mC := hC.keep fun b vs e => g1 b _ e List.not_mem_nil
          refine Bt.mono (Q := fun b τ' => b = (X i' && !X j') ∧ τ' = τ) ?_ ?_
          · refine Bt.and (Bt.cmp (Ev.sub (Ev.cel (by walk_at "mem") g5 (Ev.loc (by walk_at "mem") (Su.vec g6 hi2 (by omega) (Ev.int (Cm.eq (Tr.bool ⟨fun h => ?_, fun h => ⟨?_, rfl⟩⟩))))))))
            · have x1 : X i' = true := (Xt i').mp (by have := of_decide_eq_true h; omega)
              refine Bt.and (Bt.cmp (Ev.sub (Ev.cel (by walk_at "mem") g5 (Ev.loc (by walk_at "mem") (Su.vec g6 hj2 (by omega) (Ev.int (Cm.eq (Tr.bool ⟨fun h' => Bt.and_nil ⟨?_, rfl⟩, fun h' => ⟨?_, rfl⟩⟩))))))))
              · have x2 : X j' = false := Bool.eq_false_iff.mpr fun z => by have := (Xt j').mpr z; have := of_decide_eq_true h'; omega
                rw [x1, x2]; rfl
              · have x2 : X j' = true := (Xt j').mp (by have := of_decide_eq_false h'; have := bit2 j'; omega)
                rw [x1, x2]; rfl
            · have x1 : X i' = false := Bool.eq_false_iff.mpr fun z => by have := (Xt i').mpr z; have := of_decide_eq_false h; omega
              rw [x1]; rfl
          · rintro b τ'' ⟨rfl, rfl⟩
            refine ⟨fun hb => ?_, fun hb => ?_⟩
            · refine Ev.mat mC (Ev.cel (by walk_at "mem") g3) (Ev.loc (by walk_at "mem")) (Ev.loc (by walk_at "mem")) hi2 hj2 (by omega) ⟨.inl hi2, hj2, ?_, g1, g2, g3, g4, g5, g6⟩
              rw [rowL_succ, if_pos hb, ← List.append_assoc, List.map_append (l₂ := [C i' j'])]; rfl
            · refine ⟨.inl hi2, hj2, ?_, g1, g2, g3, g4, g5, g6⟩
              rw [rowL_succ, if_neg (by rw [hb]; decide), List.append_nil]
        · rintro i' ys τ ⟨h1, h2, rfl, hH⟩
          rw [upTo_len, Int.toNat_natCast] at h1 h2 ⊢
          exact ⟨by omega, Nat.zero_le _, by rw [cutL_succ]; simp [rowL], hH⟩
        · rintro ys τ ⟨h1, h2, rfl, hH⟩
          rw [upTo_len, Int.toNat_natCast]
          exact ⟨by simp [rowL], hH⟩
      · rintro ys τ b ⟨rfl, hH⟩ hb
        refine El.nil (Ek.nil ⟨Kp.bi, Cl.sum (ns := cutL C X n n) Sig.upd_self ?_ ?_ ?_⟩)
        · have a1 := cutL_len (C := C) (X := X) (n := n) n
          have a3 : n * n ≤ 10 * 10 := Nat.mul_le_mul hn hn
          omega
        · intro x hx
          obtain ⟨u, v, rfl⟩ := cutL_mem hx
          exact bC u v
        walk_at "stok"
        have hK := Hup (x := .list ((cutL C X n n).map Val.int)) hH hb
        generalize (τ.upd b (.list ((cutL C X n n).map Val.int))) = ρ' at hK ⊢
        have hJ' : J ρ' := ⟨hK.1, hK.2.1, hK.2.2.1, ⟨_, hK.2.2.2.1⟩, _, hK.2.2.2.2.1⟩
        refine Seq.next (Es.cons (Ex.ifs (Bt.mono (Q := fun b τ' => b = (match v with | .int w => decide (cutV n C X < w) | _ => true) ∧ τ' = ρ') ?_ ?_)))
        · rcases hv with ⟨rfl, _⟩ | ⟨w, rfl, _⟩
          · exact Bt.or (Bt.cmp (Ev.loc (by walk_at "mem") (Ev.none (Cm.isNoneT (Tr.bool ⟨fun _ => ⟨rfl, rfl⟩, fun h => (nomatch h)⟩)))))
          · exact Bt.or (Bt.cmp (Ev.loc (by walk_at "mem") (Ev.none (Cm.isNoneF (by intro e; cases e) (Tr.bool ⟨fun h => (nomatch h), fun _ => Bt.or (Bt.cmp (Ev.loc (by walk_at "mem") (Ev.loc (by walk_at "mem") (Cm.lt (Tr.bool ⟨fun h => ⟨h.symm, rfl⟩, fun h => Bt.or_nil ⟨h.symm, rfl⟩⟩)))))⟩)))))
        rintro bb τ'' ⟨rfl, rfl⟩
        refine ⟨fun hb => ?_, fun hb => ?_⟩
        · refine Es.cons (Ex.asg (Ev.loc (by walk_at "mem") ?_))
          walk_at "stok"
          refine Seq.next (Es.nil (Seq.next (Es.nil (Seq.next (Es.nil ⟨⟨_, _, rfl, .inr ⟨_, rfl, ⟨i, Nat.lt_succ_self _, hsel, rfl⟩, fun j hj hs' => ?_⟩⟩, hJ'⟩)))))
          by_cases e : j = i
          · rw [e]; exact Int.le_refl _
          · rcases hv with ⟨rfl, hno⟩ | ⟨w, rfl, _, hmin⟩
            · exact absurd hs' (hno j (by omega))
            · have z1 := hmin j (by omega) hs'
              have z2 : cutV n C X < w := of_decide_eq_true hb
              show cutV n C X ≤ _
              omega
        · refine Es.nil (Seq.next (Es.nil (Seq.next (Es.nil ⟨⟨_, _, rfl, ?_⟩, hJ'⟩))))
          rcases hv with ⟨rfl, hno⟩ | ⟨w, rfl, ⟨j0, hj0, hs0, e0⟩, hmin⟩
          · cases hb
          · refine .inr ⟨w, rfl, ⟨j0, by omega, hs0, e0⟩, fun j hj hs' => ?_⟩
            by_cases e : j = i
            · have z2 : ¬ cutV n C X < w := of_decide_eq_false hb
              rw [e]; show w ≤ cutV n C X; omega
            · exact hmin j (by omega) hs'
    · have hns := of_decide_eq_false h
      have hJ' : J τ' := ⟨m6, m1, m2, ⟨_, m3⟩, _, m4⟩
      refine Es.nil (Seq.next (Es.nil ⟨⟨_, _, rfl, ?_⟩, hJ'⟩))
      rcases hv with ⟨rfl, hno⟩ | ⟨w, rfl, ⟨j0, hj0, hs0, e0⟩, hmin⟩
      · refine .inl ⟨rfl, fun j hj hs' => ?_⟩
        by_cases e : j = i
        · rw [e] at hs'; exact hns hs'
        · exact hno j (by omega) hs'
      · refine .inr ⟨w, rfl, ⟨j0, by omega, hs0, e0⟩, fun j hj hs' => ?_⟩
        by_cases e : j = i
        · rw [e] at hs'; exact absurd hs' hns
        · exact hmin j (by omega) hs'
  · rintro m' τ ⟨⟨v, o, rfl, hv⟩, hJ⟩
    rw [upTo_len, Int.toNat_natCast] at hv
    exact Seq.next (Es.cons (Ex.ret (Ev.loc (by walk_at "mem") (q v τ hv hJ.1))))
end
/-- the drawing lot -/
noncomputable def DrawAt (σ : Sig) (d it : Addr) : Prop := ∃ (seed : Int) (xs : List Int), σ d = some (.list [.ref it, .int seed]) ∧ σ it = some (.list (xs.map Val.int)) ∧ xs.length ≤ 24
theorem DrawAt.keep {σ σ' : Sig} {d it : Addr} (h : DrawAt σ d it) (k : ∀ b vs, σ b = some (.list vs) → b = d ∨ b = it → σ' b = some (.list vs)) : DrawAt σ' d it :=
  let ⟨s, x, h1, h2, h3⟩ := h; ⟨s, x, k _ _ h1 (.inl rfl), k _ _ h2 (.inr rfl), h3⟩
section
variable {B : Bd} {φ : Phi} {A : Around} {σ : Sig} {E : Value → Shared → Prop}
theorem take' {d it : Addr} {many : Int} {Q : Val → Sig → Prop} (hA : AOk A 3) (h : DrawAt σ d it) (hm : 0 < many) (q : ∀ (r : Nat) σ', (r : Int) < many → DrawAt σ' d it → σ.But σ' [d, it] → Q (.int r) σ') :
    Cl B φ A (.ref 719) [.ref d, .int many] [] σ Q E := by
  obtain ⟨s, xs, h1, h2, h3⟩ := h
  refine take_spec hA h1 h2 hm (by omega) fun r xs' s' hr hr' hl => ?_
  obtain ⟨k, rfl⟩ := Int.eq_ofNat_of_zero_le hr
  refine q k _ hr' ⟨s', xs', Sig.upd_self, ?_, by omega⟩ (Sig.But.upd (Sig.But.upd Sig.But.refl (by simp)) (by simp))
  refine (Sig.upd_ne fun e => ?_).trans Sig.upd_self
  rw [e, h1] at h2
  have h2' : [Val.ref it, Val.int s] = xs.map Val.int := by injection h2 with h2; injection h2
  cases xs with
  | nil => cases h2'
  | cons a r => cases h2'
/-- a list that lay there before -/
noncomputable def BaseL (B : Bd) (l : Addr) (vs : List Val) : Prop := ∃ (o : Obj) (items : Array Value) (n : Nat), B.H.get? l = some o ∧ o.cls = .type "list" ∧ o.data = .seq items n ∧ items.toList.map er = vs
theorem Gang.base {it l : Addr} {vs : List Val} (hl : BaseL B l vs) : Gang B A it (fun i => .lit l i) vs (fun _ => True) where
  item φ σ s i x Q E S _ hx hQ := by
    obtain ⟨o, items, n, ho, hoc, hod, e⟩ := hl
    subst e
    rw [List.getElem?_map] at hx
    cases q' : items.toList[i]? with
    | none => rw [q'] at hx; cases hx
    | some y =>
      rw [q'] at hx; cases hx
      exact wpAny_pyNext_list_item (S.ph _ (.head _)).1 ⟨_, S.keep _ _ ho, hoc, n, hod⟩ (by rw [← Array.getElem?_toList]; exact q') fun h' hi hs => hQ _ _ rfl (S.alter hs.extBut hi)
  last φ σ s i Q E F S _ hx hQ := by
    obtain ⟨o, items, n, ho, hoc, hod, e⟩ := hl
    subst e
    rw [List.getElem?_map, Option.map_eq_none_iff] at hx
    exact next_list_end (S.hd F (.head _) (fun _ => Cell.noConfusion)) (S.ph _ (.head _)).1 ⟨_, S.keep _ _ ho, hoc, n, hod⟩ (by rw [← Array.getElem?_toList]; exact hx) fun h' hs => hQ _ (S.lose hs)
  plain i _ _ := Cell.noConfusion
  self φ σ s i Q E S q := wpAny_pyIter_listiter (S.ph _ (.head _)).1 q
theorem It.base {l : Addr} {vs : List Val} {K : Sig → Prop} (hl : BaseL B l vs) (k : K σ) : It B φ A (.ref l) σ vs (fun _ => True) K := fun u s Q E hu F S h => by
  rw [er_ref hu]
  have G := Gang.base (A := A) (it := s.heap.objs.size) hl
  obtain ⟨o, items, n, ho, hoc, hod, e⟩ := hl
  exact wpAny_pyIter_list ⟨_, S.keep _ _ ho, hoc, n, hod⟩ (h _ _ σ _ (S.allocH (c := .lit l 0) (fun b o e => Heap.get?_push_of_some _ e) ⟨_, Heap.get?_push_size _ rfl, rfl, rfl⟩) k G)
theorem draw_spec {sa : Addr} {xs : List Int} {Q : Val → Sig → Prop} (hA : AOk A 2) (hs : BaseL B sa (xs.map Val.int)) (hx : xs.length ≤ 63) (q : ∀ d it σ', DrawAt σ' d it → σ d = none → σ it = none → σ.But σ' [] → Q (.ref d) σ') :
    Cl B φ A (.ref 712) [.ref sa] [] σ Q E := by
  refine Cl.def0 (k := 1) (gl := [(Str.ofString "abs", .builtin "abs")]) (ps := [Str.ofString "script"]) (rest := [Str.ofString "seed", Str.ofString "cell"]) hA rfl rfl (by kernel_rfl) rfl (hb1 fun _ => rfl) rfl (by kernel_rfl) (by walk_at "gl") ?_
  intro env A' E' hL hA' eA eE hE
  clear hL eA eE hA
  show Es B φ A' ⟨env, [], _⟩ [(Str.ofString "script", some (.ref sa)), (Str.ofString "seed", none), (Str.ofString "cell", none)] (bodyOf B.w 712) σ _ E'
  refine Es.cons (Ex.asg (Ev.int ?_))
  walk_at "stok"
  refine Seq.next (Es.cons (Ex.for (vs := xs.map Val.int) (R := fun _ => True) (fun i m' τ => (∃ seed : Int, ∃ o, m' = [(Str.ofString "script", some (.ref sa)), (Str.ofString "seed", some (.int seed)), (Str.ofString "cell", o)]) ∧ τ = σ) hE ?_ ?_ ?_ ?_))
  · exact Ev.loc (by walk_at "mem") (It.base hs ⟨⟨_, _, rfl⟩, rfl⟩)
  · intros; trivial
  · rintro i y m' τ it c' hc' hy ⟨⟨seed, o, rfl⟩, rfl⟩
    rw [List.getElem?_map] at hy
    cases e : xs[i]? with
    | none => rw [e] at hy; cases hy
    | some n =>
      rw [e] at hy; cases hy
      refine ⟨_, by walk_at "sto", ?_⟩
      refine Es.cons (Ex.asg (Ev.bin (Ev.bin (Ev.bin (Ev.bin (Ev.loc (by walk_at "mem") (Ev.int (Bn.mul (IntMulOk.of_right (by decide +kernel)) (Ev.bin (Ev.callG (by walk_at "mem") (El.cons (Ev.loc (by walk_at "mem") (El.nil (Ek.nil ⟨Kp.bi, Cl.abs (Ev.int (Bn.mod (by decide) (Bn.add (Ev.int (Bn.add (Ev.int (Bn.mod (by decide) ?_)))))))⟩))))))))))))))
      walk_at "stok"
      exact Seq.next (Es.nil ⟨⟨_, _, rfl⟩, rfl⟩)
  · rintro m' τ ⟨⟨seed, o, rfl⟩, rfl⟩
    let ab : Int → Int := fun x => if x < 0 then -x else x
    refine Seq.next (Es.cons (Ex.ret (Ev.list (El.cons (Ev.sub (Ev.comp (ls := [Str.ofString "cell"]) (fr := []) (gl := [(Str.ofString "abs", .builtin "abs")]) (vs := xs.map Val.int) (R := fun _ => True) (P := fun ys υ => ys = (xs.map ab).map Val.int ∧ υ = τ) (by kernel_rfl) (fun _ h => nomatch h) (by walk_at "gl") ?_ ?_))))))
    · refine Ev.loc (by walk_at "mem") (It.base hs ?_)
      refine CompLoop.one (o := Option.none) (I := fun k ys υ => ys = ((xs.take k).map ab).map Val.int ∧ υ = τ) rfl ?_ ?_ ?_ ?_ ?_
      · intros; trivial
      · rintro k ys υ ⟨rfl, _⟩; rw [List.length_map, List.length_map, List.length_take]; omega
      · exact ⟨rfl, rfl⟩
      · rintro k y ys υ φ' env' E'' hy ⟨rfl, rfl⟩
        rw [List.getElem?_map] at hy
        cases e : xs[k]? with
        | none => rw [e] at hy; cases hy
        | some n =>
          rw [e] at hy; cases hy
          refine ⟨fun _ => ?_, fun e => (nomatch e)⟩
          refine Ev.callG (.head _) (El.cons (Ev.loc (.head _) (El.nil (Ek.nil ⟨Kp.bi, Cl.abs ⟨?_, rfl⟩⟩))))
          rw [List.take_add_one, e, List.map_append, List.map_append]; rfl
      · rintro ys υ ⟨rfl, rfl⟩
        rw [List.length_map, List.take_length]
        exact ⟨rfl, rfl⟩
    · rintro ys υ a ⟨rfl, rfl⟩ ha
      refine Ev.slice (Ev.int ⟨24, rfl, fun b hb => ?_⟩)
      obtain ⟨hba, hb'⟩ := Sig.upd_none hb
      refine Su.sliceTo ((Sig.upd_ne hba.symm).trans Sig.upd_self) Sig.upd_self (by rw [List.length_map, List.length_map]; omega) fun c hc => ?_
      obtain ⟨hcb, hc'⟩ := Sig.upd_none hc
      obtain ⟨hca, hc''⟩ := Sig.upd_none hc'
      refine El.cons (Ev.loc (by walk_at "mem") (El.nil ⟨by simp, fun d hd => ?_⟩))
      obtain ⟨hdc, hd'⟩ := Sig.upd_none hd
      obtain ⟨hdb, hd''⟩ := Sig.upd_none hd'
      obtain ⟨hda, hd'''⟩ := Sig.upd_none hd''
      refine q d c _ ⟨seed, (xs.map ab).take 24, Sig.upd_self, ?_, by rw [List.length_take]; omega⟩ hd''' hc'' ?_
      · refine (Sig.upd_ne hdc.symm).trans (Sig.upd_self.trans ?_)
        rw [List.map_take, clip_le (by decide), List.length_map, List.length_map]
        have : List.take (min (Int.toNat 24) xs.length) ((xs.map ab).map Val.int) = List.take 24 ((xs.map ab).map Val.int) := by
          rw [List.take_eq_take_iff]; simp
        exact congrArg _ (congrArg _ this)
      · exact Sig.But.fresh (Sig.But.fresh (Sig.But.fresh (Sig.But.fresh Sig.But.refl ha) hb) hc) hd
end
section
variable {B : Bd} {φ : Phi} {A : Around} {σ : Sig} {E : Value → Shared → Prop}
theorem Ip.add {i j : Int} {Q : Value → Sig → Prop} (q : ∀ r, er r = .int (i + j) → Q r σ) : ∀ x y, er x = .int i → er y = .int j → T B φ A (inplaceOp .Add x y) σ Q E := fun u v hu hv s F S => by
  obtain ⟨t, rfl⟩ := er_int hu; obtain ⟨t', rfl⟩ := er_int hv
  exact PySem.AutoIntOps.iadd_0 ⟨σ, S.toks _, q _ rfl⟩
theorem Ip.sub {i j : Int} {Q : Value → Sig → Prop} (q : ∀ r, er r = .int (i - j) → Q r σ) : ∀ x y, er x = .int i → er y = .int j → T B φ A (inplaceOp .Sub x y) σ Q E := fun u v hu hv s F S => by
  obtain ⟨t, rfl⟩ := er_int hu; obtain ⟨t', rfl⟩ := er_int hv
  exact PySem.AutoIntOps.isub_0 ⟨σ, S.toks _, q _ rfl⟩
end
/-- all places of edges -/
noncomputable def Net.edges (G : Net) : List Addr := (List.range G.n).flatMap fun i => (G.S i).map (G.ea i)
theorem Net.edge_mem {G : Net} {i j : Nat} (hi : i < G.n) (hj : j ∈ G.S i) : G.ea i j ∈ G.edges := List.mem_flatMap.mpr ⟨i, List.mem_range.mpr hi, List.mem_map_of_mem hj⟩
theorem Net.At.edge_is {G : Net} {σ : Sig} {c f : Nat → Nat → Int} {gr kvs : List (Str × Val)} {out : Bool} (h : G.At σ c f gr kvs out) {a : Addr} (ha : a ∈ G.edges) : ∃ kvs, σ a = some (.dS kvs) := by
  obtain ⟨i, hi, ha⟩ := List.mem_flatMap.mp ha
  obtain ⟨j, hj, rfl⟩ := List.mem_map.mp ha
  exact ⟨_, h.hea i j (List.mem_range.mp hi) hj⟩
theorem Net.At.flow {G : Net} {σ : Sig} {c f : Nat → Nat → Int} {gr kvs : List (Str × Val)} {out : Bool} (h : G.At σ c f gr kvs out) {i j : Nat} (hi : i < G.n) (hj : j ∈ G.S i) {y : Int} : G.At (σ.upd (G.ea i j) (edge (c i j) y)) c (set2 f i j y) gr kvs out := by
  have he := h.hea i j hi hj
  have k : ∀ {a : Addr} {x : Cell}, σ a = some x → a ≠ G.ea i j → (σ.upd (G.ea i j) (edge (c i j) y)) a = some x := fun e n => (Sig.upd_ne n).trans e
  have kk : ∀ {a : Addr} {x : Cell}, σ a = some x → (∀ l, x ≠ .dS l) → (σ.upd (G.ea i j) (edge (c i j) y)) a = some x := fun {a x} e n => k e fun z => by rw [z, he] at e; cases e; exact n _ rfl
  refine ⟨h.ok, kk h.hx (by intros; exact fun e => nomatch e), kk h.hd (by intros; exact fun e => nomatch e), k h.hg (h.ok.eg i j hi hj).symm, let ⟨e, q⟩ := h.hnd; ⟨e, kk q (by intros; exact fun e => nomatch e)⟩, let ⟨e, q⟩ := h.hsc; ⟨e, kk q (by intros; exact fun e => nomatch e)⟩,
    let ⟨e, q⟩ := h.hpr; ⟨e, kk q (by intros; exact fun e => nomatch e)⟩, fun i hi => let ⟨e, q⟩ := h.hsa i hi; ⟨e, kk q (by intros; exact fun e => nomatch e)⟩, fun i hi => let ⟨e, q⟩ := h.hpa i hi; ⟨e, kk q (by intros; exact fun e => nomatch e)⟩, fun k l hk hl => ?_⟩
  by_cases z : k = i ∧ l = j
  · rw [z.1, z.2, set2_self]; exact Sig.upd_self
  · rw [set2_ne z, Sig.upd_ne fun e => z (h.ok.einj _ _ _ _ hk hi hl hj e)]
    exact h.hea k l hk hl
/-- a road through the network: its steps, what may go through, and what is left -/
noncomputable abbrev steps (p : List Nat) : List (Nat × Nat) := p.zip p.tail
noncomputable def stepOk (G : Net) (e : Nat × Nat) : Prop := e.1 < G.n ∧ e.2 < G.n ∧ e.2 ∈ G.S e.1 ∧ e.1 ∈ G.S e.2
noncomputable def bott (c f : Nat → Nat → Int) (inf : Int) (l : List (Nat × Nat)) : Int := l.foldl (fun a e => min a (c e.1 e.2 - f e.1 e.2)) inf
noncomputable def augOne (b : Int) (f : Nat → Nat → Int) (e : Nat × Nat) : Nat → Nat → Int := set2 (set2 f e.1 e.2 (f e.1 e.2 + b)) e.2 e.1 ((set2 f e.1 e.2 (f e.1 e.2 + b)) e.2 e.1 - b)
noncomputable def augAll (b : Int) (f : Nat → Nat → Int) (l : List (Nat × Nat)) : Nat → Nat → Int := l.foldl (augOne b) f
theorem steps_get {p : List Nat} {i : Nat} (h : i + 1 < p.length) : (steps p)[i]? = some (p[i], p[i + 1]) := by
  rw [List.getElem?_zip_eq_some]
  refine ⟨List.getElem?_eq_getElem (by omega), ?_⟩
  rw [List.getElem?_tail]; exact List.getElem?_eq_getElem h
theorem steps_len {p : List Nat} : (steps p).length = p.length - 1 := by rw [List.length_zip, List.length_tail]; omega
theorem foldl_take {α β : Type} {g : β → α → β} {b : β} {l : List α} {i : Nat} {a : α} (h : l[i]? = some a) : (l.take (i + 1)).foldl g b = g ((l.take i).foldl g b) a := by
  rw [List.take_add_one, h, List.foldl_append]; rfl
/-- a def inside core -/
noncomputable def defAt (w : World) (i : Nat) : Arguments × List Stmt × Scope := match (bodyOf w 700)[i]? with
  | some (.FunctionDef _ p b _ _ _ s _ _ _) => (p, b, s)
  | _ => (⟨[], [], none, [], [], none, []⟩, [], ⟨.function, [], false, false, []⟩)
noncomputable def augC (w : World) (crs ci c' : Addr) (doc pm ctv : Value) : Obj := fnMade (Str.ofString "augment") (Str.ofString "edmonds_karp_core.<locals>.augment") (defAt w 4).1 (defAt w 4).2.1 (defAt w 4).2.2 [(Str.ofString "inf", ci), (Str.ofString "R_succ", crs)] doc pm c' ctv
theorem aug_names {w : World} : cellNames (defAt w 4).2.2.names = [] := by kernel_rfl
theorem aug_bind {w : World} {crs ci c' : Addr} {doc pm ctv a : Value} : bindArgs (fnX (Str.ofString "augment") (Str.ofString "edmonds_karp_core.<locals>.augment") (defAt w 4).1 (defAt w 4).2.1 (defAt w 4).2.2 [(Str.ofString "inf", ci), (Str.ofString "R_succ", crs)] .none .none doc pm none (.ref c') ctv) ⟨[a], []⟩ = pure [(Str.ofString "path", a)] := by kernel_rfl
theorem un_exc {w : World} : excIn (K0 w) 68 [.type "Exception", .type "BaseException", .type "object"] "Exception.__new__" = true := by kernel_rfl
theorem un_ns {w : World} : nsIn (K0 w) mainGlobals (Str.ofString "NetworkXUnbounded") = some (some (.ref 68)) := by kernel_rfl
section
variable {B : Bd} {φ : Phi} {A : Around} {σ : Sig} {E : Value → Shared → Prop}
theorem augment_spec {G : Net} {g crs ci c' pl : Addr} {doc pm ctv : Value} {c f : Nat → Nat → Int} {gr kvs : List (Str × Val)} {out : Bool} {inf : Int} {p : List Nat} {Q : Val → Sig → Prop} (hA : AOk A 2) (hh : A.handled = none)
    (hg : σ g = some (.obj (augC B.w crs ci c' doc pm ctv))) (hcode : σ c' = some (codeC (Str.ofString "edmonds_karp_core.<locals>.augment"))) (hci : σ ci = some (.cel (some (.int inf)))) (hcrs : σ crs = some (.cel (some (.ref G.sc))))
    (h : G.At σ c f gr kvs out) (hpl : σ pl = some (.list (p.map fun i => .int (G.nm i)))) (hp0 : 0 < p.length) (hpz : p.length ≤ 1000) (hp : ∀ e ∈ steps p, stepOk G e)
    (hE : inf < bott c f inf (steps p) * 2 → ∀ v s' σ', Exc B φ σ' 68 v s' → σ.But σ' [] → E v s')
    (q : ∀ σ', ¬ inf < bott c f inf (steps p) * 2 → G.At σ' c (augAll (bott c f inf (steps p)) f (steps p)) gr kvs out → σ.But σ' G.edges → Q (.int (bott c f inf (steps p))) σ') :
    Cl B φ A (.ref g) [.ref pl] [] σ Q E := by
  refine Cl.withF fun F0 => ?_
  refine Cl.defC (k := 1) (ls := [Str.ofString "path", Str.ofString "flow", Str.ofString "it", Str.ofString "u", Str.ofString "v", Str.ofString "attr"]) (gl := [(Str.ofString "iter", .builtin "iter"), (Str.ofString "next", .builtin "next"), (Str.ofString "min", .builtin "min"), (Str.ofString "NetworkXUnbounded", .ref 68)])
    hA (fun s S => ⟨S.look hg, S.codeRec hcode⟩) rfl rfl (by kernel_rfl) (by show List.Nodup (cellNames (defAt B.w 4).2.2.names ++ [Str.ofString "inf", Str.ofString "R_succ"]); rw [aug_names]; decide) (by walk_at "gl") ?_ (by kernel_rfl) (by kernel_rfl) (by kernel_rfl) (by kernel_rfl) (by kernel_rfl)
  intro us ks hus hk s F S
  obtain ⟨a, rfl, ha⟩ := one_arg hus
  obtain rfl := no_kw hk
  rw [aug_bind]
  refine wpAny_pure ⟨σ, S, ?_⟩
  intro env A' E' as hA' eA eE hE' hlen hfr
  obtain rfl : as = [] := List.length_eq_zero_iff.mp hlen
  refine .inl ⟨_, .head, BindK.nil ?_⟩
  show Es B φ A' ⟨env, [(Str.ofString "inf", ci), (Str.ofString "R_succ", crs)], _⟩ [(Str.ofString "path", some (er a)), (Str.ofString "flow", none), (Str.ofString "it", none), (Str.ofString "u", none), (Str.ofString "v", none), (Str.ofString "attr", none)] (defAt B.w 4).2.1 σ _ E'
  rw [ha]
  refine Es.withF fun F1 => ?_
  have hh' : A'.handled = none := by rw [eA]; exact hh
  clear hus hk S F hlen hfr hA
  let pv : List Val := p.map fun i => .int (G.nm i)
  have pget : ∀ i (hi : i < p.length), pv[i]? = some (.int (G.nm p[i])) := fun i hi => by show (p.map _)[i]? = _; rw [List.getElem?_map, List.getElem?_eq_getElem hi]; rfl
  have gs : ∀ i (hi : i + 1 < p.length), (steps p)[i]? = some (p[i], p[i + 1]) := fun i hi => steps_get hi
  have okS : ∀ i (hi : i + 1 < p.length), stepOk G (p[i], p[i + 1]) := fun i hi => hp _ (List.mem_of_getElem? (gs i hi))
  have plen : (pv.drop 1).length = p.length - 1 := by rw [List.length_drop, List.length_map]
  -- the first pass
  refine Es.cons (Ex.asg (Ev.cel (by walk_at "mem") hci ?_))
  walk_at "stok"
  refine Seq.next (Es.cons (Ex.asg (Ev.callG (by walk_at "mem") (El.cons (Ev.loc (by walk_at "mem") (El.nil (Ek.nil ⟨Kp.bi, Cl.iterL hpl fun it hit => ?_⟩)))))))
  walk_at "stok"
  have b1 : σ.But (σ.upd it (.lit pl 0)) [] := Sig.But.new Sig.But.refl hit
  refine Seq.next (Es.cons (Ex.asg (Ev.callG (by walk_at "mem") (El.cons (Ev.loc (by walk_at "mem") (El.nil (Ek.nil ⟨Kp.bi, Cl.nextL Sig.upd_self (b1 _ _ hpl List.not_mem_nil) (pget 0 hp0) ?_⟩)))))))
  walk_at "stok"
  rw [Sig.upd_upd]
  have bd : ∀ k, σ.But ((σ.upd it (.lit pl k)).del it) [] := fun k a x e _ => by
    have : a ≠ it := Sig.ne e hit
    show (if a = it then none else _) = _
    rw [if_neg this]; exact (Sig.upd_ne this).trans e
  refine Seq.next (Es.cons (Ex.for (vs := pv.drop 1) (R := fun τ => τ pl = some (.list pv)) (fun i m' τ => (∃ o1 o2 x, m' = [(Str.ofString "path", some (.ref pl)), (Str.ofString "flow", some (.int (bott c f inf ((steps p).take i)))), (Str.ofString "it", some (.ref it)), (Str.ofString "u", some (.int x)), (Str.ofString "v", o1), (Str.ofString "attr", o2)] ∧ (∀ hi : i < p.length, x = G.nm p[i])) ∧ σ.But τ []) hE' ?_ ?_ ?_ ?_))
  · refine Ev.loc (by walk_at "mem") (It.lit Sig.upd_self ⟨⟨_, _, _, rfl, fun _ => rfl⟩, bd 1⟩)
  · rintro i m' τ ⟨_, hb⟩; exact hb _ _ hpl List.not_mem_nil
  · rintro i y m' τ itt c'' hc'' hy ⟨⟨o1, o2, x, rfl, hx⟩, hb⟩
    have hi : i + 1 < p.length := by
      have := (List.getElem?_eq_some_iff.mp hy).1
      omega
    rw [List.getElem?_drop, Nat.add_comm 1 i, pget (i + 1) hi] at hy
    obtain rfl := Option.some.inj hy
    obtain rfl := hx (by omega)
    obtain ⟨s1, s2, s3, s4⟩ := okS i hi
    have hN := h.keep0 hb
    obtain ⟨e1, hsc⟩ := hN.hsc
    obtain ⟨e2, hsa⟩ := hN.hsa _ s1
    have he := hN.hea _ _ s1 s3
    refine ⟨_, by walk_at "sto", ?_⟩
    refine Es.cons (Ex.asg (Ev.sub (Ev.sub (Ev.cel (by walk_at "mem") (hb _ _ hcrs List.not_mem_nil) (Ev.loc (by walk_at "mem") (Su.dI hsc (Net.tab_mem s1) (Ev.loc (by walk_at "mem") (Su.dI hsa (Net.row_mem s3) ?_))))))))
    walk_at "stok"
    refine Seq.next (Es.cons (Ex.asg (Ev.callG (by walk_at "mem") (El.cons (Ev.loc (by walk_at "mem") (El.cons (Ev.bin (Ev.sub (Ev.loc (by walk_at "mem") (Ev.str (Su.dS (kvs := [(Str.ofString "capacity", .int (c p[i] p[i + 1])), (Str.ofString "flow", .int (f p[i] p[i + 1]))]) he (by walk_at "mem") (Ev.sub (Ev.loc (by walk_at "mem") (Ev.str (Su.dS (kvs := [(Str.ofString "capacity", .int (c p[i] p[i + 1])), (Str.ofString "flow", .int (f p[i] p[i + 1]))]) he (by walk_at "mem") (Bn.sub (El.nil (Ek.nil ⟨Kp.bi, Cl.min2 hh' ?_⟩))))))))))))))))))
    walk_at "stok"
    refine Seq.next (Es.cons (Ex.asg (Ev.loc (by walk_at "mem") ?_)))
    walk_at "stok"
    have hbt : bott c f inf ((steps p).take (i + 1)) = min (bott c f inf ((steps p).take i)) (c p[i] p[i + 1] - f p[i] p[i + 1]) := foldl_take (gs i hi)
    refine Seq.next (Es.nil ⟨⟨_, _, G.nm p[i + 1], by rw [hbt], fun _ => rfl⟩, hb⟩)
  · rintro m' τ ⟨⟨o1, o2, x, rfl, -⟩, hb⟩
    have hbt : (steps p).take (pv.drop 1).length = steps p := by rw [plen, ← steps_len, List.take_length]
    rw [hbt]
    refine Seq.next (Es.cons (Ex.ifs (Bt.cmp (Ev.bin (Ev.loc (by walk_at "mem") (Ev.int (Bn.mul (IntMulOk.of_right (by decide +kernel)) (Ev.cel (by walk_at "mem") (hb _ _ hci List.not_mem_nil) (Cm.gt (Tr.bool ⟨fun hr => ?_, fun hr => ?_⟩))))))))))
    · -- too much: it raises
      refine Es.cons (Ex.raiseOwn hh' (by walk_at "mem") un_ns un_exc PySem.F.excBase_Exception (El.cons (Ev.str (El.nil ⟨by simp, fun v s' X => ?_⟩))))
      rw [eA] at F1
      rw [eE, eA]
      exact ELeave.exc (f := ⟨env, _, _⟩) F0 F1 X fun s'' X' => hE (of_decide_eq_true hr) v s'' _ X' hb
    · refine Es.nil (Seq.next ?_)
      have hnr := of_decide_eq_false hr
      refine Es.cons (Ex.asg (Ev.callG (by walk_at "mem") (El.cons (Ev.loc (by walk_at "mem") (El.nil (Ek.nil ⟨Kp.bi, Cl.iterL (hb _ _ hpl List.not_mem_nil) fun it2 hit2 => ?_⟩))))))
      walk_at "stok"
      have b2 : σ.But (τ.upd it2 (.lit pl 0)) [] := Sig.But.fresh hb hit2
      refine Seq.next (Es.cons (Ex.asg (Ev.callG (by walk_at "mem") (El.cons (Ev.loc (by walk_at "mem") (El.nil (Ek.nil ⟨Kp.bi, Cl.nextL Sig.upd_self (b2 _ _ hpl List.not_mem_nil) (pget 0 hp0) ?_⟩)))))))
      walk_at "stok"
      rw [Sig.upd_upd]
      have bd2 : ∀ k, σ.But ((τ.upd it2 (.lit pl k)).del it2) [] := fun k a x e _ => by
        have e' := hb a x e List.not_mem_nil
        have : a ≠ it2 := Sig.ne e' hit2
        show (if a = it2 then none else _) = _
        rw [if_neg this]; exact (Sig.upd_ne this).trans e'
      generalize hB : bott c f inf (steps p) = b at *
      have ne : ∀ {a : Addr} {x : Cell}, σ a = some x → (∀ l, x ≠ .dS l) → a ∉ G.edges := fun {a x} e n m => by
        obtain ⟨_, e'⟩ := h.edge_is m
        rw [e] at e'; cases e'; exact n _ rfl
      refine Seq.next (Es.cons (Ex.for (vs := pv.drop 1) (R := fun τ => τ pl = some (.list pv)) (fun i m' τ => (∃ o1 o2 x, m' = [(Str.ofString "path", some (.ref pl)), (Str.ofString "flow", some (.int b)), (Str.ofString "it", some (.ref it2)), (Str.ofString "u", some (.int x)), (Str.ofString "v", o1), (Str.ofString "attr", o2)] ∧ (∀ hi : i < p.length, x = G.nm p[i])) ∧ σ.But τ G.edges ∧ G.At τ c (augAll b f ((steps p).take i)) gr kvs out) hE' ?_ ?_ ?_ ?_))
      · exact Ev.loc (by walk_at "mem") (It.lit Sig.upd_self ⟨⟨_, _, _, rfl, fun _ => rfl⟩, (bd2 1).mono fun a h => (nomatch h), h.keep0 (bd2 1)⟩)
      · rintro i m' υ ⟨_, hb', _⟩; exact hb' _ _ hpl (ne hpl (by intros; exact fun e => nomatch e))
      · rintro i y m' υ itt c'' hc'' hy ⟨⟨o1, o2, x, rfl, hx⟩, hb', hN⟩
        have hi : i + 1 < p.length := by
          have := (List.getElem?_eq_some_iff.mp hy).1
          omega
        rw [List.getElem?_drop, Nat.add_comm 1 i, pget (i + 1) hi] at hy
        obtain rfl := Option.some.inj hy
        obtain rfl := hx (by omega)
        obtain ⟨s1, s2, s3, s4⟩ := okS i hi
        have crs1 := hb' _ _ hcrs (ne hcrs (by intros; exact fun e => nomatch e))
        have he := hN.hea _ _ s1 s3
        have hN1 := hN.flow s1 s3 (y := augAll b f ((steps p).take i) p[i] p[i + 1] + b)
        have hb1 : σ.But (υ.upd (G.ea p[i] p[i + 1]) (edge (c p[i] p[i + 1]) (augAll b f ((steps p).take i) p[i] p[i + 1] + b))) G.edges := Sig.But.upd hb' (Net.edge_mem s1 s3)
        have he1 := hN1.hea _ _ s2 s4
        have hN2 := hN1.flow s2 s4 (y := set2 (augAll b f ((steps p).take i)) p[i] p[i + 1] (augAll b f ((steps p).take i) p[i] p[i + 1] + b) p[i + 1] p[i] - b)
        have hb2 := Sig.But.upd (c := edge (c p[i + 1] p[i]) (set2 (augAll b f ((steps p).take i)) p[i] p[i + 1] (augAll b f ((steps p).take i) p[i] p[i + 1] + b) p[i + 1] p[i] - b)) hb1 (Net.edge_mem s2 s4)
        have crs2 := hb1 _ _ hcrs (ne hcrs (by intros; exact fun e => nomatch e))
        obtain ⟨e1, hsc⟩ := hN.hsc
        obtain ⟨e2, hsa⟩ := hN.hsa _ s1
        obtain ⟨e3, hsc1⟩ := hN1.hsc
        obtain ⟨e4, hsa1⟩ := hN1.hsa _ s2
        refine ⟨_, by walk_at "sto", ?_⟩
        refine Es.cons (Ex.augSub (Ev.sub (Ev.sub (Ev.cel (by walk_at "mem") crs1 (Ev.loc (by walk_at "mem") (Su.dI hsc (Net.tab_mem s1) (Ev.loc (by walk_at "mem") (Su.dI hsa (Net.row_mem s3) (Ev.str (Gi.dS (kvs := [(Str.ofString "capacity", .int (c p[i] p[i + 1])), (Str.ofString "flow", .int (augAll b f ((steps p).take i) p[i] p[i + 1]))]) he (by walk_at "mem") (Ev.loc (by walk_at "mem") (Ip.add fun r hr => ?_))))))))))))
        rw [hr]
        refine Si.dSt (kvs := [(Str.ofString "capacity", .int (c p[i] p[i + 1])), (Str.ofString "flow", .int (augAll b f ((steps p).take i) p[i] p[i + 1]))]) he (by simp) (by walk_at "std") (Seq.next ?_)
        refine Es.cons (Ex.augSub (Ev.sub (Ev.sub (Ev.cel (by walk_at "mem") crs2 (Ev.loc (by walk_at "mem") (Su.dI hsc1 (Net.tab_mem s2) (Ev.loc (by walk_at "mem") (Su.dI hsa1 (Net.row_mem s4) (Ev.str (Gi.dS (kvs := [(Str.ofString "capacity", .int (c p[i + 1] p[i])), (Str.ofString "flow", .int (set2 (augAll b f ((steps p).take i)) p[i] p[i + 1] (augAll b f ((steps p).take i) p[i] p[i + 1] + b) p[i + 1] p[i]))]) he1 (by walk_at "mem") (Ev.loc (by walk_at "mem") (Ip.sub fun r hr => ?_))))))))))))
        rw [hr]
        refine Si.dSt (kvs := [(Str.ofString "capacity", .int (c p[i + 1] p[i])), (Str.ofString "flow", .int (set2 (augAll b f ((steps p).take i)) p[i] p[i + 1] (augAll b f ((steps p).take i) p[i] p[i + 1] + b) p[i + 1] p[i]))]) he1 (by simp) (by walk_at "std") (Seq.next ?_)
        refine Es.cons (Ex.asg (Ev.loc (by walk_at "mem") ?_))
        walk_at "stok"
        refine Seq.next (Es.nil ⟨⟨_, _, _, rfl, fun _ => rfl⟩, hb2, ?_⟩)
        have : augAll b f ((steps p).take (i + 1)) = augOne b (augAll b f ((steps p).take i)) (p[i], p[i + 1]) := foldl_take (gs i hi)
        rw [this]
        exact hN2
      · rintro m' υ ⟨⟨o1, o2, x, rfl, -⟩, hb', hN⟩
        rw [hbt] at hN
        exact Seq.next (Es.cons (Ex.ret (Ev.loc (by walk_at "mem") (q υ hnr hN hb'))))
end
/-! ### the search, in plain words -/
noncomputable abbrev keysOf (l : List (Nat × Option Nat)) : List Nat := l.map (·.1)
inductive Tree (R : Nat → Nat → Prop) (root : Nat) : List (Nat × Option Nat) → Prop
  | root : Tree R root [(root, none)]
  | add {l : List (Nat × Option Nat)} {u v : Nat} : Tree R root l → u ∈ keysOf l → v ∉ keysOf l → R u v → Tree R root (l ++ [(v, some u)])
theorem Tree.nodup {R : Nat → Nat → Prop} {root : Nat} {l : List (Nat × Option Nat)} (h : Tree R root l) : (keysOf l).Nodup := by
  induction h with
  | root => exact List.nodup_cons.mpr ⟨List.not_mem_nil, List.nodup_nil⟩
  | add h hu hv hr ih =>
    rw [keysOf, List.map_append]
    refine List.nodup_append.mpr ⟨ih, by simp, fun a ha b hb e => ?_⟩
    simp only [List.map_cons, List.map_nil, List.mem_singleton] at hb
    exact hv (by rw [← hb, ← e]; exact ha)
theorem Tree.lt {R : Nat → Nat → Prop} {root n : Nat} {l : List (Nat × Option Nat)} (h : Tree R root l) (h0 : root < n) (hR : ∀ u v, R u v → v < n) : ∀ w ∈ keysOf l, w < n := by
  induction h with
  | root => intro w hw; simp only [keysOf, List.map_cons, List.map_nil, List.mem_singleton] at hw; rw [hw]; exact h0
  | add h hu hv hr ih =>
    intro w hw
    rw [keysOf, List.map_append] at hw
    rcases List.mem_append.mp hw with hw | hw
    · exact ih w hw
    · simp only [List.map_cons, List.map_nil, List.mem_singleton] at hw; rw [hw]; exact hR _ _ hr
theorem Tree.has_root {R : Nat → Nat → Prop} {root : Nat} {l : List (Nat × Option Nat)} (h : Tree R root l) : root ∈ keysOf l := by
  induction h with
  | root => exact .head _
  | add h hu hv hr ih => rw [keysOf, List.map_append]; exact List.mem_append_left _ ih
structure SideI (R : Nat → Nat → Prop) (nb : Nat → List Nat) (root : Nat) (O : List (Nat × Option Nat)) (fs : List Nat) (k : Nat) (i j : Nat) (P : List (Nat × Option Nat)) (q : List Nat) : Prop where
  tree : Tree R root P
  dis : ∀ w, w ∈ keysOf P → w ∉ keysOf O
  fsP : ∀ w ∈ fs, w ∈ keysOf P
  qP : ∀ w ∈ q, w ∈ keysOf P
  len : P.length = k + q.length
  expl : ∀ w ∈ keysOf P, w ∉ fs.drop i → w ∉ q → ∀ v, R w v → v ∈ keysOf P
  part : ∀ u, fs[i]? = some u → ∀ v ∈ (nb u).take j, R u v → v ∈ keysOf P
theorem keys_app {l : List (Nat × Option Nat)} {v : Nat} {o : Option Nat} {w : Nat} : w ∈ keysOf (l ++ [(v, o)]) ↔ w ∈ keysOf l ∨ w = v := by
  rw [keysOf, List.map_append, List.mem_append]; simp
theorem SideI.skip {R : Nat → Nat → Prop} {nb : Nat → List Nat} {root : Nat} {O P : List (Nat × Option Nat)} {fs q : List Nat} {k i j u v : Nat} (h : SideI R nb root O fs k i j P q) (hu : fs[i]? = some u) (hv : (nb u)[j]? = some v) (hn : R u v → v ∈ keysOf P) :
    SideI R nb root O fs k i (j + 1) P q :=
  ⟨h.tree, h.dis, h.fsP, h.qP, h.len, h.expl, by
    intro u' hu' w hw hr
    rw [hu] at hu'; cases hu'
    rw [List.take_add_one, hv] at hw
    rcases List.mem_append.mp hw with hw | hw
    · exact h.part u hu w hw hr
    · simp only [Option.toList, List.mem_singleton] at hw; subst hw; exact hn hr⟩
theorem SideI.more {R : Nat → Nat → Prop} {nb : Nat → List Nat} {root : Nat} {O P : List (Nat × Option Nat)} {fs q : List Nat} {k i j u v : Nat} (h : SideI R nb root O fs k i j P q) (hu : fs[i]? = some u) (hv : (nb u)[j]? = some v) (hr : R u v) (hn : v ∉ keysOf P) (ho : v ∉ keysOf O) :
    SideI R nb root O fs k i (j + 1) (P ++ [(v, some u)]) (q ++ [v]) where
  tree := h.tree.add (h.fsP u (List.mem_of_getElem? hu)) hn hr
  dis w hw := by rcases keys_app.mp hw with hw | rfl; exact h.dis w hw; exact ho
  fsP w hw := keys_app.mpr (.inl (h.fsP w hw))
  qP w hw := by
    rcases List.mem_append.mp hw with hw | hw
    · exact keys_app.mpr (.inl (h.qP w hw))
    · exact keys_app.mpr (.inr (List.mem_singleton.mp hw))
  len := by rw [List.length_append, List.length_append, h.len]; rfl
  expl w hw n1 n2 x hx := by
    rcases keys_app.mp hw with hw | rfl
    · exact keys_app.mpr (.inl (h.expl w hw n1 (fun m => n2 (List.mem_append_left _ m)) x hx))
    · exact absurd (List.mem_append_right _ (List.mem_singleton.mpr rfl)) n2
  part u' hu' w hw hr' := by
    rw [hu] at hu'; cases hu'
    rw [List.take_add_one, hv] at hw
    rcases List.mem_append.mp hw with hw | hw
    · exact keys_app.mpr (.inl (h.part u hu w hw hr'))
    · simp only [Option.toList, List.mem_singleton] at hw; exact keys_app.mpr (.inr hw)
theorem SideI.next {R : Nat → Nat → Prop} {nb : Nat → List Nat} {root : Nat} {O P : List (Nat × Option Nat)} {fs q : List Nat} {k i u : Nat} (h : SideI R nb root O fs k i (nb u).length P q) (hu : fs[i]? = some u) (hR : ∀ u v, R u v → v ∈ nb u) :
    SideI R nb root O fs k (i + 1) 0 P q :=
  ⟨h.tree, h.dis, h.fsP, h.qP, h.len, by
    intro w hw n1 n2 v hv
    by_cases e : w = u
    · subst e
      exact h.part w hu v (by rw [List.take_length]; exact hR _ _ hv) hv
    · refine h.expl w hw (fun m => ?_) n2 v hv
      have hi : i < fs.length := (List.getElem?_eq_some_iff.mp hu).1
      rw [List.drop_eq_getElem_cons hi] at m
      have hg : fs[i] = u := (List.getElem?_eq_some_iff.mp hu).2
      rcases List.mem_cons.mp m with m | m
      · exact e (m.trans hg)
      · exact n1 m, by
    intro _ _ w hw
    simp at hw⟩
/-- what is found: a meeting place, or a cut -/
structure Met (R R' : Nat → Nat → Prop) (s t v : Nat) (P O : List (Nat × Option Nat)) : Prop where
  pt : Tree R s P
  ot : Tree R' t O
  vp : v ∈ keysOf P
  vo : v ∈ keysOf O
  only : ∀ w, w ∈ keysOf P → w ∈ keysOf O → w = v
/-- the values of a tree -/
noncomputable def encV (G : Net) : Option Nat → Val
  | none => .none
  | some u => .int (G.nm u)
noncomputable def enc (G : Net) (l : List (Nat × Option Nat)) : List (Int × Val) := l.map fun e => (G.nm e.1, encV G e.2)
theorem enc_app {G : Net} {l : List (Nat × Option Nat)} {v : Nat} {o : Option Nat} : enc G l ++ [(G.nm v, encV G o)] = enc G (l ++ [(v, o)]) := by unfold enc; rw [List.map_append]; rfl
theorem enc_key {G : Net} (ok : G.Ok) {l : List (Nat × Option Nat)} {v : Nat} (hl : ∀ w ∈ keysOf l, w < G.n) (hv : v < G.n) : G.nm v ∈ (enc G l).map (·.1) ↔ v ∈ keysOf l := by
  unfold enc
  rw [List.map_map]
  constructor
  · intro h
    obtain ⟨e, he, x⟩ := List.mem_map.mp h
    have hw : e.1 ∈ keysOf l := List.mem_map_of_mem (f := (·.1)) he
    have := ok.inj _ _ (hl _ hw) hv x
    rw [← this]; exact hw
  · intro h
    obtain ⟨e, he, rfl⟩ := List.mem_map.mp h
    exact List.mem_map.mpr ⟨e, he, rfl⟩
theorem enc_len {G : Net} {l : List (Nat × Option Nat)} : (enc G l).length = l.length := by unfold enc; rw [List.length_map]
/-- one of the two ways through the network -/
structure Dir (G : Net) (σ : Sig) (tb : Addr) (ra : Nat → Addr) (nb : Nat → List Nat) (ed : Nat → Nat → Addr) (cc ff : Nat → Nat → Int) : Prop where
  tab : ∃ ep, σ tb = some (.dI (G.tab ra) ep)
  row : ∀ i, i < G.n → ∃ ep, σ (ra i) = some (.dI (G.row (nb i) (ed i)) ep)
  cell : ∀ i j, i < G.n → j ∈ nb i → σ (ed i j) = some (edge (cc i j) (ff i j))
  lt : ∀ i j, i < G.n → j ∈ nb i → j < G.n
theorem Net.At.dirS {G : Net} {σ : Sig} {c f : Nat → Nat → Int} {gr kvs : List (Str × Val)} {out : Bool} (h : G.At σ c f gr kvs out) : Dir G σ G.sc G.sa G.S G.ea c f := ⟨h.hsc, h.hsa, h.hea, h.ok.slt⟩
theorem Net.At.dirP {G : Net} {σ : Sig} {c f : Nat → Nat → Int} {gr kvs : List (Str × Val)} {out : Bool} (h : G.At σ c f gr kvs out) : Dir G σ G.pr G.pa G.P (fun i j => G.ea j i) (fun i j => c j i) (fun i j => f j i) :=
  ⟨h.hpr, h.hpa, fun i j hi hj => h.hea j i (h.ok.plt j i hi hj) ((h.ok.ps j i (h.ok.plt j i hi hj) hi).mp hj), fun i j hi hj => h.ok.plt j i hi hj⟩
/-- a step that still has room -/
noncomputable abbrev Room (n : Nat) (nb : Nat → List Nat) (cc ff : Nat → Nat → Int) (u v : Nat) : Prop := u < n ∧ v ∈ nb u ∧ ff u v < cc u v
/-- what holds at each turn of the search -/
structure Wh (R R' : Nat → Nat → Prop) (s t : Nat) (P O : List (Nat × Option Nat)) (fs ft : List Nat) : Prop where
  pt : Tree R s P
  ot : Tree R' t O
  dis : ∀ w, w ∈ keysOf P → w ∉ keysOf O
  fp : ∀ w ∈ fs, w ∈ keysOf P
  fo : ∀ w ∈ ft, w ∈ keysOf O
  ep : ∀ w ∈ keysOf P, w ∉ fs → ∀ v, R w v → v ∈ keysOf P
  eo : ∀ w ∈ keysOf O, w ∉ ft → ∀ v, R' w v → v ∈ keysOf O
  fl : fs.length ≤ 100
  tl : ft.length ≤ 100
theorem Wh.sideP {R R' : Nat → Nat → Prop} {s t : Nat} {P O : List (Nat × Option Nat)} {fs ft : List Nat} {nb : Nat → List Nat} (W : Wh R R' s t P O fs ft) : SideI R nb s O fs P.length 0 0 P [] :=
  ⟨W.pt, W.dis, W.fp, fun _ h => (nomatch h), rfl, fun w hw n _ v hv => W.ep w hw n v hv, fun _ _ w hw => by simp at hw⟩
theorem Wh.sideO {R R' : Nat → Nat → Prop} {s t : Nat} {P O : List (Nat × Option Nat)} {fs ft : List Nat} {nb : Nat → List Nat} (W : Wh R R' s t P O fs ft) : SideI R' nb t P ft O.length 0 0 O [] :=
  ⟨W.ot, fun w hw ho => W.dis w ho hw, W.fo, fun _ h => (nomatch h), rfl, fun w hw n _ v hv => W.eo w hw n v hv, fun _ _ w hw => by simp at hw⟩
theorem none_of {σ τ : Sig} (b : σ.But τ []) {a : Addr} (h : τ a = none) : σ a = none := by
  cases e : σ a with
  | none => rfl
  | some c => rw [b _ _ e List.not_mem_nil] at h; cases h
/-- a cut without room -/
noncomputable def Cut (G : Net) (c f : Nat → Nat → Int) (s t : Nat) : Prop := ∃ X : Nat → Bool, X s = true ∧ X t = false ∧ ∀ u v, u < G.n → v ∈ G.S u → X u = true → X v = false → c u v ≤ f u v
theorem cut_left {G : Net} {c f : Nat → Nat → Int} {s t : Nat} {X : List Nat} (hs : s ∈ X) (ht : t ∉ X) (clo : ∀ w ∈ X, ∀ v, Room G.n G.S c f w v → v ∈ X) : Cut G c f s t := by
  refine ⟨fun w => decide (w ∈ X), decide_eq_true hs, decide_eq_false ht, fun u v hu hv h1 h2 => ?_⟩
  refine Int.not_lt.mp fun hl => of_decide_eq_false h2 (clo u (of_decide_eq_true h1) v ⟨hu, hv, hl⟩)
theorem cut_right {G : Net} (ok : G.Ok) {c f : Nat → Nat → Int} {s t : Nat} {X : List Nat} (ht : t ∈ X) (hs : s ∉ X) (clo : ∀ w ∈ X, ∀ v, Room G.n G.P (fun i j => c j i) (fun i j => f j i) w v → v ∈ X) : Cut G c f s t := by
  refine ⟨fun w => !decide (w ∈ X), by show (!decide (s ∈ X)) = true; rw [decide_eq_false hs]; rfl, by show (!decide (t ∈ X)) = false; rw [decide_eq_true ht]; rfl, fun u v hu hv h1 h2 => ?_⟩
  have hv' := ok.slt u v hu hv
  refine Int.not_lt.mp fun hl => ?_
  have hX : v ∈ X := by
    cases e : decide (v ∈ X) with
    | true => exact of_decide_eq_true e
    | false => change (!decide (v ∈ X)) = false at h2; rw [e] at h2; cases h2
  have := clo v hX u ⟨hv', (ok.ps u v hu hv').mpr hv, hl⟩
  change (!decide (u ∈ X)) = true at h1
  rw [decide_eq_true this] at h1; cases h1
noncomputable def bfsC (w : World) (crp crs cs ct c' : Addr) (doc pm ctv : Value) : Obj := fnMade (Str.ofString "bidirectional_bfs") (Str.ofString "edmonds_karp_core.<locals>.bidirectional_bfs") (defAt w 5).1 (defAt w 5).2.1 (defAt w 5).2.2 [(Str.ofString "t", ct), (Str.ofString "s", cs), (Str.ofString "R_succ", crs), (Str.ofString "R_pred", crp)] doc pm c' ctv
theorem bfs_names {w : World} : cellNames (defAt w 5).2.2.names = [] := by kernel_rfl
theorem bfs_bind {w : World} {crp crs cs ct c' : Addr} {doc pm ctv : Value} : bindArgs (fnX (Str.ofString "bidirectional_bfs") (Str.ofString "edmonds_karp_core.<locals>.bidirectional_bfs") (defAt w 5).1 (defAt w 5).2.1 (defAt w 5).2.2 [(Str.ofString "t", ct), (Str.ofString "s", cs), (Str.ofString "R_succ", crs), (Str.ofString "R_pred", crp)] .none .none doc pm none (.ref c') ctv) ⟨[], []⟩ = pure [] := by kernel_rfl
section
variable {B : Bd} {φ : Phi} {A : Around} {σ : Sig} {E : Value → Shared → Prop}
theorem bfs_spec {G : Net} {g crp crs cs ct c' : Addr} {doc pm ctv : Value} {c f : Nat → Nat → Int} {gr kvs : List (Str × Val)} {out : Bool} {s t : Nat} {Q : Val → Sig → Prop} (hA : AOk A 2) (hh : A.handled = none)
    (hg : σ g = some (.obj (bfsC B.w crp crs cs ct c' doc pm ctv))) (hcode : σ c' = some (codeC (Str.ofString "edmonds_karp_core.<locals>.bidirectional_bfs"))) (hcs : σ cs = some (.cel (some (.int (G.nm s))))) (hct : σ ct = some (.cel (some (.int (G.nm t)))))
    (hcrs : σ crs = some (.cel (some (.ref G.sc)))) (hcrp : σ crp = some (.cel (some (.ref G.pr)))) (h : G.At σ c f gr kvs out) (hs : s < G.n) (ht : t < G.n) (hst : s ≠ t)
    (qm : ∀ v P O pd sd tp σ', Met (Room G.n G.S c f) (Room G.n G.P (fun i j => c j i) (fun i j => f j i)) s t v P O → σ' tp = some (.tup [.int (G.nm v), .ref pd, .ref sd]) → (∃ ep, σ' pd = some (.dI (enc G P) ep)) → (∃ ep, σ' sd = some (.dI (enc G O) ep)) → σ.But σ' [] → Q (.ref tp) σ')
    (qc : ∀ tp σ', Cut G c f s t → σ' tp = some (.tup [.none, .none, .none]) → σ.But σ' [] → Q (.ref tp) σ') :
    Cl B φ A (.ref g) [] [] σ Q E := by
  have ok := h.ok
  have hnle := ok.le
  have DS := h.dirS
  have DP := h.dirP
  refine Cl.defC (k := 1) (ls := [Str.ofString "pred", Str.ofString "q_s", Str.ofString "succ", Str.ofString "q_t", Str.ofString "q", Str.ofString "u", Str.ofString "v", Str.ofString "attr"]) (gl := [(Str.ofString "len", .builtin "len")])
    hA (fun s S => ⟨S.look hg, S.codeRec hcode⟩) rfl rfl (by kernel_rfl) (by show List.Nodup (cellNames (defAt B.w 5).2.2.names ++ [Str.ofString "t", Str.ofString "s", Str.ofString "R_succ", Str.ofString "R_pred"]); rw [bfs_names]; decide) (by walk_at "gl") ?_ (by kernel_rfl) (by kernel_rfl) (by kernel_rfl) (by kernel_rfl) (by kernel_rfl)
  intro us ks hus hk s₀ F S
  obtain rfl : us = [] := List.map_eq_nil_iff.mp hus
  obtain rfl := no_kw hk
  rw [bfs_bind]
  refine wpAny_pure ⟨σ, S, ?_⟩
  intro env A' E' as hA' eA eE hE' hlen hfr
  obtain rfl : as = [] := List.length_eq_zero_iff.mp hlen
  refine BindK.nil ?_
  show Es B φ A' ⟨env, [(Str.ofString "t", ct), (Str.ofString "s", cs), (Str.ofString "R_succ", crs), (Str.ofString "R_pred", crp)], _⟩ [(Str.ofString "pred", none), (Str.ofString "q_s", none), (Str.ofString "succ", none), (Str.ofString "q_t", none), (Str.ofString "q", none), (Str.ofString "u", none), (Str.ofString "v", none), (Str.ofString "attr", none)] (defAt B.w 5).2.1 σ _ E'
  have hh' : A'.handled = none := by rw [eA]; exact hh
  clear hus hk S F hlen hfr hA eA eE
  have hRS : ∀ {u v}, Room G.n G.S c f u v → v < G.n := fun {u v} h => ok.slt u v h.1 h.2.1
  have hRP : ∀ {u v}, Room G.n G.P (fun i j => c j i) (fun i j => f j i) u v → v < G.n := fun {u v} h => DP.lt u v h.1 h.2.1
  refine Es.cons (Ex.asg (Ev.dict1 fun pd pd0 => Ev.cel (by walk_at "mem") ((Sig.upd_ne (Sig.ne hcs pd0)).trans hcs) ⟨_, rfl, Ev.none ⟨Sig.upd_self, fun ep1 => ?_⟩⟩))
  walk_at "stok"
  rw [Sig.upd_upd]
  refine Seq.next (Es.cons (Ex.asg (Ev.list (El.cons (Ev.cel (by walk_at "mem") ((Sig.upd_ne (Sig.ne hcs pd0)).trans hcs) (El.nil ⟨by simp, fun a ha0 => ?_⟩))))))
  walk_at "stok"
  obtain ⟨apd, ha1⟩ := Sig.upd_none ha0
  have b1 : σ.But ((σ.upd pd (.dI [(G.nm s, .none)] ep1)).upd a (.list [.int (G.nm s)])) [] := Sig.But.fresh (Sig.But.new Sig.But.refl pd0) ha0
  refine Seq.next (Es.cons (Ex.asg (Ev.dict1 fun sd sd1 => Ev.cel (by walk_at "mem") ((Sig.upd_ne (Sig.ne (b1 _ _ hct List.not_mem_nil) sd1)).trans (b1 _ _ hct List.not_mem_nil)) ⟨_, rfl, Ev.none ⟨Sig.upd_self, fun ep2 => ?_⟩⟩)))
  walk_at "stok"
  rw [Sig.upd_upd]
  have sd0 : σ sd = none := none_of b1 sd1
  obtain ⟨sda, sd2⟩ := Sig.upd_none sd1
  obtain ⟨sdp, sd3⟩ := Sig.upd_none sd2
  have pds : pd ≠ sd := sdp.symm
  have b2 := Sig.But.fresh (c := .dI [(G.nm t, .none)] ep2) b1 sd1
  refine Seq.next (Es.cons (Ex.asg (Ev.list (El.cons (Ev.cel (by walk_at "mem") (b2 _ _ hct List.not_mem_nil) (El.nil ⟨by simp, fun b hb0 => ?_⟩))))))
  walk_at "stok"
  have b3 := Sig.But.fresh (c := .list [.int (G.nm t)]) b2 hb0
  obtain ⟨bsd, hb1⟩ := Sig.upd_none hb0
  obtain ⟨ba, hb2⟩ := Sig.upd_none hb1
  obtain ⟨bpd, hb3⟩ := Sig.upd_none hb2
  have h1 : ((((σ.upd pd (.dI [(G.nm s, .none)] ep1)).upd a (.list [.int (G.nm s)])).upd sd (.dI [(G.nm t, .none)] ep2)).upd b (.list [.int (G.nm t)])) pd = some (.dI (enc G [(s, none)]) ep1) := by walk_at "look"
  have h2 : ((((σ.upd pd (.dI [(G.nm s, .none)] ep1)).upd a (.list [.int (G.nm s)])).upd sd (.dI [(G.nm t, .none)] ep2)).upd b (.list [.int (G.nm t)])) sd = some (.dI (enc G [(t, none)]) ep2) := by walk_at "look"
  have h3 : ((((σ.upd pd (.dI [(G.nm s, .none)] ep1)).upd a (.list [.int (G.nm s)])).upd sd (.dI [(G.nm t, .none)] ep2)).upd b (.list [.int (G.nm t)])) a = some (.list ([s].map fun i => .int (G.nm i))) := by walk_at "look"
  have h4 : ((((σ.upd pd (.dI [(G.nm s, .none)] ep1)).upd a (.list [.int (G.nm s)])).upd sd (.dI [(G.nm t, .none)] ep2)).upd b (.list [.int (G.nm t)])) b = some (.list ([t].map fun i => .int (G.nm i))) := Sig.upd_self
  generalize ((((σ.upd pd (.dI [(G.nm s, .none)] ep1)).upd a (.list [.int (G.nm s)])).upd sd (.dI [(G.nm t, .none)] ep2)).upd b (.list [.int (G.nm t)])) = τ₀ at b3 h1 h2 h3 h4 ⊢
  refine Seq.next (Es.cons (Ex.while (fun n m' τ => ∃ P O fs ft pd sd a b oq o1 o2 o3, m' = [(Str.ofString "pred", some (.ref pd)), (Str.ofString "q_s", some (.ref a)), (Str.ofString "succ", some (.ref sd)), (Str.ofString "q_t", some (.ref b)), (Str.ofString "q", oq), (Str.ofString "u", o1), (Str.ofString "v", o2), (Str.ofString "attr", o3)] ∧ n + P.length + O.length = 2 * G.n ∧ σ.But τ [] ∧ (∃ ep, τ pd = some (.dI (enc G P) ep)) ∧ (∃ ep, τ sd = some (.dI (enc G O) ep)) ∧ τ a = some (.list (fs.map fun i => .int (G.nm i))) ∧ τ b = some (.list (ft.map fun i => .int (G.nm i))) ∧ σ pd = none ∧ σ sd = none ∧ pd ≠ sd ∧ Wh (Room G.n G.S c f) (Room G.n G.P (fun i j => c j i) (fun i j => f j i)) s t P O fs ft) (2 * G.n - 2) ?_ hE' ?_))
  · refine ⟨[(s, none)], [(t, none)], [s], [t], pd, sd, a, b, _, _, _, _, rfl, by simp only [List.length_cons, List.length_nil]; omega, b3, ⟨_, h1⟩, ⟨_, h2⟩, h3, h4, pd0, sd0, pds, ⟨.root, .root, ?_, ?_, ?_, ?_, ?_, by simp, by simp⟩⟩
    · intro w hw ho
      simp only [keysOf, List.map_cons, List.map_nil, List.mem_singleton] at hw ho
      exact hst (hw.symm.trans ho)
    · intro w hw; exact hw
    · intro w hw; exact hw
    · intro w hw n; exact absurd hw n
    · intro w hw n; exact absurd hw n
  clear h1 h2 h3 h4 b1 b2 b3 ha0 ha1 pd0 sd0 sd1 sd2 sd3 pds sda sdp apd hb0 hb1 hb2 hb3 bsd ba bpd
  rintro n m' τ ⟨P, O, fs, ft, pd, sd, a, b, oq, o1, o2, o3, rfl, hn, b0, ⟨e1, hpd⟩, ⟨e2, hsd⟩, ha, hb, pd0, sd0, pds, W⟩
  refine Bt.val (Ev.bool (Tr.bool (tT ?_)))
  have hz : fs.length ≤ 100000 ∧ ft.length ≤ 100000 := ⟨Nat.le_trans W.fl (by decide), Nat.le_trans W.tl (by decide)⟩
  refine Es.cons (Ex.asg (Ev.list (El.nil ⟨by simp, fun qa hqa => ?_⟩)))
  walk_at "stok"
  have hla : (τ.upd qa (.list [])) a = some (.list (fs.map fun i => .int (G.nm i))) := (Sig.upd_ne (Sig.ne ha hqa)).trans ha
  have hlb : (τ.upd qa (.list [])) b = some (.list (ft.map fun i => .int (G.nm i))) := (Sig.upd_ne (Sig.ne hb hqa)).trans hb
  refine Seq.next (Es.cons (Ex.ifs (Bt.cmp (Ev.callG (by walk_at "mem") (El.cons (Ev.loc (by walk_at "mem") (El.nil (Ek.nil ⟨Kp.bi, Cl.len hla (by rw [List.length_map]; exact hz.1) (Ev.callG (by walk_at "mem") (El.cons (Ev.loc (by walk_at "mem") (El.nil (Ek.nil ⟨Kp.bi, Cl.len hlb (by rw [List.length_map]; exact hz.2) (Cm.le (Tr.bool ⟨fun _ => ?_, fun _ => ?_⟩))⟩)))))⟩))))))))
  · have kp : ∀ {ρ : Sig} {x : Addr} {c' : Cell}, σ.But ρ [] → σ x = some c' → ρ x = some c' := fun b e => b _ _ e List.not_mem_nil
    have qap : qa ≠ pd := (Sig.ne hpd hqa).symm
    have qao : qa ≠ sd := (Sig.ne hsd hqa).symm
    have qaf : qa ≠ a := (Sig.ne ha hqa).symm
    have paf : pd ≠ a := fun z => by rw [z, ha] at hpd; cases hpd
    have b1 : σ.But (τ.upd qa (.list [])) [] := Sig.But.fresh b0 hqa
    have qa0 : σ qa = none := none_of b0 hqa
    -- what holds while the neighbours are looked at
    let J : Nat → Nat → List (Nat × Option Nat) → List Nat → Sig → Prop := fun i j X q ρ => σ.But ρ [] ∧ (∃ ep, ρ pd = some (.dI (enc G X) ep)) ∧ (∃ ep, ρ sd = some (.dI (enc G O) ep)) ∧ ρ a = some (.list (fs.map fun i => .int (G.nm i))) ∧ ρ a = some (.list (fs.map fun i => .int (G.nm i))) ∧ ρ b = some (.list (ft.map fun i => .int (G.nm i))) ∧ ρ qa = some (.list (q.map fun i => .int (G.nm i))) ∧ SideI (Room G.n G.S c f) G.S s O fs P.length i j X q
    have J0 : J 0 0 P [] (τ.upd qa (.list [])) := ⟨b1, ⟨_, (Sig.upd_ne qap.symm).trans hpd⟩, ⟨_, (Sig.upd_ne qao.symm).trans hsd⟩, (Sig.upd_ne qaf.symm).trans ha, (Sig.upd_ne (Sig.ne ha hqa)).trans ha, (Sig.upd_ne (Sig.ne hb hqa)).trans hb, Sig.upd_self, W.sideP⟩
    have klt : ∀ {i j X q}, SideI (Room G.n G.S c f) G.S s O fs P.length i j X q → ∀ w ∈ keysOf X, w < G.n := fun I => I.tree.lt hs fun u v h => hRS h
    have olt : ∀ w ∈ keysOf O, w < G.n := W.ot.lt ht fun u v h => hRP h
    refine Es.cons (Ex.for (vs := fs.map fun i => .int (G.nm i)) (R := fun ρ => ρ a = some (.list (fs.map fun i => .int (G.nm i)))) (fun i m' ρ => (∃ o1 o2 o3, m' = [(Str.ofString "pred", some (.ref pd)), (Str.ofString "q_s", some (.ref a)), (Str.ofString "succ", some (.ref sd)), (Str.ofString "q_t", some (.ref b)), (Str.ofString "q", some (.ref qa)), (Str.ofString "u", o1), (Str.ofString "v", o2), (Str.ofString "attr", o3)]) ∧ ∃ X q, J i 0 X q ρ) hE' ?_ ?_ ?_ ?_)
    · exact Ev.loc (by walk_at "mem") (It.list ((Sig.upd_ne qaf.symm).trans ha) ⟨⟨_, _, _, rfl⟩, _, _, J0⟩)
    · rintro i m' ρ ⟨_, X, q, hJ⟩; exact hJ.2.2.2.1
    · rintro i y m' ρ it c'' hc'' hy ⟨⟨o1, o2, o3, rfl⟩, X, q, hJ⟩
      rw [List.getElem?_map] at hy
      cases hu : fs[i]? with
      | none => rw [hu] at hy; cases hy
      | some u =>
        rw [hu] at hy
        obtain rfl := Option.some.inj hy
        have hun : u < G.n := klt hJ.2.2.2.2.2.2.2 u (hJ.2.2.2.2.2.2.2.fsP u (List.mem_of_getElem? hu))
        obtain ⟨eR, hrow⟩ := DS.row u hun
        obtain ⟨eT, htab⟩ := DS.tab
        refine ⟨_, by walk_at "sto", ?_⟩
        refine Es.cons (Ex.forItems (d := G.sa u) (kvs := G.row (G.S u) (G.ea u)) (ep := eR) (fun j m' ρ => (∃ o2 o3, m' = [(Str.ofString "pred", some (.ref pd)), (Str.ofString "q_s", some (.ref a)), (Str.ofString "succ", some (.ref sd)), (Str.ofString "q_t", some (.ref b)), (Str.ofString "q", some (.ref qa)), (Str.ofString "u", some (.int (G.nm u))), (Str.ofString "v", o2), (Str.ofString "attr", o3)]) ∧ ∃ X q, J i j X q ρ) hE' hh' ?_ ?_ ?_ ?_)
        · refine Ev.meth (Ev.sub (Ev.cel (by walk_at "mem") (kp hJ.1 hcrs) (Ev.loc (by walk_at "mem") (Su.dI (kp hJ.1 htab) (Net.tab_mem hun) (Gm.dItems (kp hJ.1 hrow) (El.nil (Ek.nil ⟨Kp.bi, Cl.dItems (kp hJ.1 hrow) fun x hx => ⟨_, rfl, Sig.upd_self, ⟨_, _, rfl⟩, X, q, ?_⟩⟩)))))))
          obtain ⟨j1, ⟨e2, j2⟩, ⟨e3, j3⟩, j4, j4a, j4b, j5, j6⟩ := hJ
          exact ⟨Sig.But.fresh j1 hx, ⟨e2, (Sig.upd_ne (Sig.ne j2 hx)).trans j2⟩, ⟨e3, (Sig.upd_ne (Sig.ne j3 hx)).trans j3⟩, (Sig.upd_ne (Sig.ne j4 hx)).trans j4, (Sig.upd_ne (Sig.ne j4a hx)).trans j4a, (Sig.upd_ne (Sig.ne j4b hx)).trans j4b, (Sig.upd_ne (Sig.ne j5 hx)).trans j5, j6⟩
        · rintro j m' ρ ⟨_, X, q, hJ⟩; exact kp hJ.1 hrow
        · rintro j k v m' ρ it' c3 hc3 hkv ⟨⟨o2, o3, rfl⟩, X, q, hJ⟩
          unfold Net.row at hkv
          rw [List.getElem?_map] at hkv
          cases hv : (G.S u)[j]? with
          | none => rw [hv] at hkv; cases hkv
          | some y =>
            rw [hv] at hkv
            obtain ⟨rfl, rfl⟩ := Prod.mk.inj (Option.some.inj hkv)
            have hym : y ∈ G.S u := List.mem_of_getElem? hv
            have hyn : y < G.n := DS.lt u y hun hym
            obtain ⟨j1, ⟨e2, j2⟩, ⟨e3, j3⟩, j4, j4a, j4b, j5, I⟩ := hJ
            have he := kp j1 (DS.cell u y hun hym)
            refine ⟨_, _, by walk_at "sto", by walk_at "sto", ?_⟩
            refine Es.cons (Ex.ifs (Bt.mono (Q := fun b ρ' => b = decide (y ∉ keysOf X ∧ (Room G.n G.S c f) u y) ∧ ρ' = ρ) ?_ ?_))
            · refine Bt.and (Bt.cmp (Ev.loc (by walk_at "mem") (Ev.loc (by walk_at "mem") (Cm.notInI j2 (Tr.bool ⟨fun h1 => ?_, fun h1 => ⟨?_, rfl⟩⟩)))))
              · have h1' : y ∉ keysOf X := fun z => by rw [decide_eq_true ((enc_key ok (klt I) hyn).mpr z)] at h1; cases h1
                refine Bt.and (Bt.cmp (Ev.sub (Ev.loc (by walk_at "mem") (Ev.str (Su.dS he (by walk_at "mem") (Ev.sub (Ev.loc (by walk_at "mem") (Ev.str (Su.dS he (by walk_at "mem") (Cm.lt (Tr.bool ⟨fun h2 => Bt.and_nil ⟨?_, rfl⟩, fun h2 => ⟨?_, rfl⟩⟩)))))))))))
                · exact (decide_eq_true ⟨h1', hun, hym, of_decide_eq_true h2⟩).symm
                · exact (decide_eq_false fun z => of_decide_eq_false h2 z.2.2.2).symm
              · have h1' : y ∈ keysOf X := (enc_key ok (klt I) hyn).mp (by
                  cases hd : decide (G.nm y ∈ (enc G X).map (·.1)) with
                  | true => exact of_decide_eq_true hd
                  | false => rw [hd] at h1; cases h1)
                exact (decide_eq_false fun z => z.1 h1').symm
            rintro bb ρ' ⟨rfl, rfl⟩
            refine ⟨fun h => ?_, fun h => ?_⟩
            · obtain ⟨hnk, hroom⟩ := of_decide_eq_true h
              have hXl : X.length ≤ G.n := by have := nodup_len G.n (keysOf X) I.tree.nodup (klt I); rwa [List.length_map] at this
              refine Es.cons (Ex.asgSub (Ev.loc (by walk_at "mem") (Ev.loc (by walk_at "mem") (Ev.loc (by walk_at "mem") (Si.dIn j2 (by rw [enc_len]; omega) (fun z => hnk ((enc_key ok (klt I) hyn).mp z)) fun e4 => ?_)))))
              have hst2 : (ρ'.upd pd (.dI (enc G X ++ [(G.nm y, .int (G.nm u))]) e4)) pd = some (.dI (enc G (X ++ [(y, some u)])) e4) := by
                rw [← enc_app]; exact Sig.upd_self
              have hb2 : σ.But (ρ'.upd pd (.dI (enc G X ++ [(G.nm y, .int (G.nm u))]) e4)) [] := Sig.But.new j1 pd0
              have ho2 : (ρ'.upd pd (.dI (enc G X ++ [(G.nm y, .int (G.nm u))]) e4)) sd = some (.dI (enc G O) e3) := (Sig.upd_ne pds.symm).trans j3
              have hfa2 : (ρ'.upd pd (.dI (enc G X ++ [(G.nm y, .int (G.nm u))]) e4)) a = some (.list (fs.map fun i => .int (G.nm i))) := (Sig.upd_ne paf.symm).trans j4
              have hl2 : ∀ {x : Addr} {vs : List Val}, ρ' x = some (.list vs) → (ρ'.upd pd (.dI (enc G X ++ [(G.nm y, .int (G.nm u))]) e4)) x = some (.list vs) := fun {x vs} e => (Sig.upd_ne fun z => by rw [z, j2] at e; cases e).trans e
              have hq2 := hl2 j5
              generalize (ρ'.upd pd (.dI (enc G X ++ [(G.nm y, .int (G.nm u))]) e4)) = ρ2 at hst2 hb2 ho2 hfa2 hl2 hq2 ⊢
              refine Seq.next (Es.cons (Ex.ifs (Bt.cmp (Ev.loc (by walk_at "mem") (Ev.loc (by walk_at "mem") (Cm.inI ho2 (Tr.bool ⟨fun h1 => ?_, fun h1 => ?_⟩)))))))
              · have hino : y ∈ keysOf O := (enc_key ok olt hyn).mp (of_decide_eq_true h1)
                refine Es.cons (Ex.ret (Ev.tup (El.cons (Ev.loc (by walk_at "mem") (El.cons (Ev.loc (by walk_at "mem") (El.cons (Ev.loc (by walk_at "mem") (El.nil ⟨by simp, fun tp htp => ?_⟩)))))))))
                have hfinal := fun (hm : Met (Room G.n G.S c f) (Room G.n G.P (fun i j => c j i) (fun i j => f j i)) s t y (X ++ [(y, some u)]) O) => qm y _ _ pd sd tp (ρ2.upd tp (.tup [.int (G.nm y), .ref pd, .ref sd])) hm Sig.upd_self ⟨e4, (Sig.upd_ne (Sig.ne hst2 htp)).trans hst2⟩ ⟨e3, (Sig.upd_ne (Sig.ne ho2 htp)).trans ho2⟩ (Sig.But.fresh hb2 htp)
                refine hfinal ?_
                have tr := I.tree.add (I.fsP u (List.mem_of_getElem? hu)) hnk hroom
                exact ⟨tr, W.ot, keys_app.mpr (.inr rfl), hino, fun w hw ho => (keys_app.mp hw).elim (fun z => absurd ho (I.dis w z)) id⟩
              · have hno : y ∉ keysOf O := fun z => of_decide_eq_false h1 ((enc_key ok olt hyn).mpr z)
                have hI2 := I.more hu hv hroom hnk hno
                have hq3 : (q ++ [y]).length ≤ 100 := by
                  have z1 := hI2.len
                  have z2 := nodup_len G.n (keysOf (X ++ [(y, some u)])) hI2.tree.nodup (klt hI2)
                  rw [List.length_map] at z2
                  omega
                rw [List.length_append] at hq3
                refine Es.nil (Seq.next (Es.cons (Ex.expr (Ev.meth (Ev.loc (by walk_at "mem") (Gm.append hq2 (El.cons (Ev.loc (by walk_at "mem") (El.nil (Ek.nil ⟨Kp.bi, Cl.append hq2 (by rw [List.length_map]; omega) (Seq.next (Es.nil (Seq.next (Es.nil ⟨⟨_, _, rfl⟩, X ++ [(y, some u)], q ++ [y], ?_⟩))))⟩))))))))))
                have qpa : qa ≠ pd := qap
                refine ⟨Sig.But.new hb2 qa0, ⟨e4, (Sig.upd_ne qap.symm).trans hst2⟩, ⟨e3, (Sig.upd_ne qao.symm).trans ho2⟩, (Sig.upd_ne qaf.symm).trans hfa2, (Sig.upd_ne (Sig.ne ha hqa)).trans (hl2 j4a), (Sig.upd_ne (Sig.ne hb hqa)).trans (hl2 j4b), ?_, hI2⟩
                rw [List.map_append]; exact Sig.upd_self
            · have hn := of_decide_eq_false h
              refine Es.nil (Seq.next (Es.nil ⟨⟨_, _, rfl⟩, X, q, j1, ⟨e2, j2⟩, ⟨e3, j3⟩, j4, j4a, j4b, j5, I.skip hu hv fun hr => ?_⟩))
              exact Classical.byContradiction fun z => hn ⟨z, hr⟩
        · rintro m' ρ ⟨⟨o2, o3, rfl⟩, X, q, j1, j2, j3, j4, j4a, j4b, j5, I⟩
          rw [Net.row_len] at I
          exact Seq.next (Es.nil ⟨⟨_, _, _, rfl⟩, X, q, j1, j2, j3, j4, j4a, j4b, j5, I.next hu fun u v h => h.2.1⟩)
    · rintro m' ρ ⟨⟨o1, o2, o3, rfl⟩, X, q, j1, ⟨e2, j2⟩, ⟨e3, j3⟩, j4, j4a, j4b, j5, I⟩
      rw [List.length_map] at I
      have hq3 : q.length ≤ 100 := by
        have z1 := I.len
        have z2 := nodup_len G.n (keysOf X) I.tree.nodup (klt I)
        rw [List.length_map] at z2
        omega
      refine Seq.next (Es.cons (Ex.ifs (Bt.not (Bt.val (Ev.loc (by walk_at "mem") (Tr.list j5 (by rw [List.length_map]; omega) ⟨fun h => ?_, fun h => ?_⟩))))))
      · have hq : q = [] := by cases q with
          | nil => rfl
          | cons x r => simp at h
        subst hq
        have clo : ∀ w ∈ keysOf X, ∀ v, (Room G.n G.S c f) w v → v ∈ keysOf X := fun w hw v hv => I.expl w hw (by simp) List.not_mem_nil v hv
        refine Es.cons (Ex.ret (Ev.tup (El.cons (Ev.none (El.cons (Ev.none (El.cons (Ev.none (El.nil ⟨by simp, fun tp htp => ?_⟩)))))))))
        refine qc tp _ ?_ Sig.upd_self (Sig.But.fresh j1 htp)
        exact cut_left (X := keysOf X) I.tree.has_root (fun z => I.dis t z W.ot.has_root) clo
      · have hq : q ≠ [] := fun z => by rw [z] at h; simp at h
        have hql : 0 < q.length := List.length_pos_iff.mpr hq
        refine Es.nil (Seq.next (Es.cons (Ex.asg (Ev.loc (by walk_at "mem") ?_))))
        walk_at "stok"
        have z1 := I.len
        have z2 := nodup_len G.n (keysOf X) I.tree.nodup (klt I)
        have z3 := nodup_len G.n (keysOf O) W.ot.nodup olt
        rw [List.length_map] at z2 z3
        refine Seq.next (Es.nil (Seq.next (Es.nil ⟨2 * G.n - X.length - O.length, by omega, X, O, q, ft, pd, sd, qa, b, _, _, _, _, rfl, by omega, j1, ⟨e2, j2⟩, ⟨e3, j3⟩, j5, j4b, pd0, sd0, pds, ⟨I.tree, W.ot, fun w hw => I.dis w hw, I.qP, W.fo, fun w hw n v hv => I.expl w hw (by simp) n v hv, W.eo, hq3, W.tl⟩⟩)))
  · have kp : ∀ {ρ : Sig} {x : Addr} {c' : Cell}, σ.But ρ [] → σ x = some c' → ρ x = some c' := fun b e => b _ _ e List.not_mem_nil
    have qap : qa ≠ sd := (Sig.ne hsd hqa).symm
    have qao : qa ≠ pd := (Sig.ne hpd hqa).symm
    have qaf : qa ≠ b := (Sig.ne hb hqa).symm
    have paf : sd ≠ b := fun z => by rw [z, hb] at hsd; cases hsd
    have b1 : σ.But (τ.upd qa (.list [])) [] := Sig.But.fresh b0 hqa
    have qa0 : σ qa = none := none_of b0 hqa
    -- what holds while the neighbours are looked at
    let J : Nat → Nat → List (Nat × Option Nat) → List Nat → Sig → Prop := fun i j X q ρ => σ.But ρ [] ∧ (∃ ep, ρ sd = some (.dI (enc G X) ep)) ∧ (∃ ep, ρ pd = some (.dI (enc G P) ep)) ∧ ρ b = some (.list (ft.map fun i => .int (G.nm i))) ∧ ρ a = some (.list (fs.map fun i => .int (G.nm i))) ∧ ρ b = some (.list (ft.map fun i => .int (G.nm i))) ∧ ρ qa = some (.list (q.map fun i => .int (G.nm i))) ∧ SideI (Room G.n G.P (fun i j => c j i) (fun i j => f j i)) G.P t P ft O.length i j X q
    have J0 : J 0 0 O [] (τ.upd qa (.list [])) := ⟨b1, ⟨_, (Sig.upd_ne qap.symm).trans hsd⟩, ⟨_, (Sig.upd_ne qao.symm).trans hpd⟩, (Sig.upd_ne qaf.symm).trans hb, (Sig.upd_ne (Sig.ne ha hqa)).trans ha, (Sig.upd_ne (Sig.ne hb hqa)).trans hb, Sig.upd_self, W.sideO⟩
    have klt : ∀ {i j X q}, SideI (Room G.n G.P (fun i j => c j i) (fun i j => f j i)) G.P t P ft O.length i j X q → ∀ w ∈ keysOf X, w < G.n := fun I => I.tree.lt ht fun u v h => hRP h
    have olt : ∀ w ∈ keysOf P, w < G.n := W.pt.lt hs fun u v h => hRS h
    refine Es.cons (Ex.for (vs := ft.map fun i => .int (G.nm i)) (R := fun ρ => ρ b = some (.list (ft.map fun i => .int (G.nm i)))) (fun i m' ρ => (∃ o1 o2 o3, m' = [(Str.ofString "pred", some (.ref pd)), (Str.ofString "q_s", some (.ref a)), (Str.ofString "succ", some (.ref sd)), (Str.ofString "q_t", some (.ref b)), (Str.ofString "q", some (.ref qa)), (Str.ofString "u", o1), (Str.ofString "v", o2), (Str.ofString "attr", o3)]) ∧ ∃ X q, J i 0 X q ρ) hE' ?_ ?_ ?_ ?_)
    · exact Ev.loc (by walk_at "mem") (It.list ((Sig.upd_ne qaf.symm).trans hb) ⟨⟨_, _, _, rfl⟩, _, _, J0⟩)
    · rintro i m' ρ ⟨_, X, q, hJ⟩; exact hJ.2.2.2.1
    · rintro i y m' ρ it c'' hc'' hy ⟨⟨o1, o2, o3, rfl⟩, X, q, hJ⟩
      rw [List.getElem?_map] at hy
      cases hu : ft[i]? with
      | none => rw [hu] at hy; cases hy
      | some u =>
        rw [hu] at hy
        obtain rfl := Option.some.inj hy
        have hun : u < G.n := klt hJ.2.2.2.2.2.2.2 u (hJ.2.2.2.2.2.2.2.fsP u (List.mem_of_getElem? hu))
        obtain ⟨eR, hrow⟩ := DP.row u hun
        obtain ⟨eT, htab⟩ := DP.tab
        refine ⟨_, by walk_at "sto", ?_⟩
        refine Es.cons (Ex.forItems (d := G.pa u) (kvs := G.row (G.P u) (fun j => G.ea j u)) (ep := eR) (fun j m' ρ => (∃ o2 o3, m' = [(Str.ofString "pred", some (.ref pd)), (Str.ofString "q_s", some (.ref a)), (Str.ofString "succ", some (.ref sd)), (Str.ofString "q_t", some (.ref b)), (Str.ofString "q", some (.ref qa)), (Str.ofString "u", some (.int (G.nm u))), (Str.ofString "v", o2), (Str.ofString "attr", o3)]) ∧ ∃ X q, J i j X q ρ) hE' hh' ?_ ?_ ?_ ?_)
        · refine Ev.meth (Ev.sub (Ev.cel (by walk_at "mem") (kp hJ.1 hcrp) (Ev.loc (by walk_at "mem") (Su.dI (kp hJ.1 htab) (Net.tab_mem hun) (Gm.dItems (kp hJ.1 hrow) (El.nil (Ek.nil ⟨Kp.bi, Cl.dItems (kp hJ.1 hrow) fun x hx => ⟨_, rfl, Sig.upd_self, ⟨_, _, rfl⟩, X, q, ?_⟩⟩)))))))
          obtain ⟨j1, ⟨e2, j2⟩, ⟨e3, j3⟩, j4, j4a, j4b, j5, j6⟩ := hJ
          exact ⟨Sig.But.fresh j1 hx, ⟨e2, (Sig.upd_ne (Sig.ne j2 hx)).trans j2⟩, ⟨e3, (Sig.upd_ne (Sig.ne j3 hx)).trans j3⟩, (Sig.upd_ne (Sig.ne j4 hx)).trans j4, (Sig.upd_ne (Sig.ne j4a hx)).trans j4a, (Sig.upd_ne (Sig.ne j4b hx)).trans j4b, (Sig.upd_ne (Sig.ne j5 hx)).trans j5, j6⟩
        · rintro j m' ρ ⟨_, X, q, hJ⟩; exact kp hJ.1 hrow
        · rintro j k v m' ρ it' c3 hc3 hkv ⟨⟨o2, o3, rfl⟩, X, q, hJ⟩
          unfold Net.row at hkv
          rw [List.getElem?_map] at hkv
          cases hv : (G.P u)[j]? with
          | none => rw [hv] at hkv; cases hkv
          | some y =>
            rw [hv] at hkv
            obtain ⟨rfl, rfl⟩ := Prod.mk.inj (Option.some.inj hkv)
            have hym : y ∈ G.P u := List.mem_of_getElem? hv
            have hyn : y < G.n := DP.lt u y hun hym
            obtain ⟨j1, ⟨e2, j2⟩, ⟨e3, j3⟩, j4, j4a, j4b, j5, I⟩ := hJ
            have he := kp j1 (DP.cell u y hun hym)
            refine ⟨_, _, by walk_at "sto", by walk_at "sto", ?_⟩
            refine Es.cons (Ex.ifs (Bt.mono (Q := fun b ρ' => b = decide (y ∉ keysOf X ∧ (Room G.n G.P (fun i j => c j i) (fun i j => f j i)) u y) ∧ ρ' = ρ) ?_ ?_))
            · refine Bt.and (Bt.cmp (Ev.loc (by walk_at "mem") (Ev.loc (by walk_at "mem") (Cm.notInI j2 (Tr.bool ⟨fun h1 => ?_, fun h1 => ⟨?_, rfl⟩⟩)))))
              · have h1' : y ∉ keysOf X := fun z => by rw [decide_eq_true ((enc_key ok (klt I) hyn).mpr z)] at h1; cases h1
                refine Bt.and (Bt.cmp (Ev.sub (Ev.loc (by walk_at "mem") (Ev.str (Su.dS he (by walk_at "mem") (Ev.sub (Ev.loc (by walk_at "mem") (Ev.str (Su.dS he (by walk_at "mem") (Cm.lt (Tr.bool ⟨fun h2 => Bt.and_nil ⟨?_, rfl⟩, fun h2 => ⟨?_, rfl⟩⟩)))))))))))
                · exact (decide_eq_true ⟨h1', hun, hym, of_decide_eq_true h2⟩).symm
                · exact (decide_eq_false fun z => of_decide_eq_false h2 z.2.2.2).symm
              · have h1' : y ∈ keysOf X := (enc_key ok (klt I) hyn).mp (by
                  cases hd : decide (G.nm y ∈ (enc G X).map (·.1)) with
                  | true => exact of_decide_eq_true hd
                  | false => rw [hd] at h1; cases h1)
                exact (decide_eq_false fun z => z.1 h1').symm
            rintro bb ρ' ⟨rfl, rfl⟩
            refine ⟨fun h => ?_, fun h => ?_⟩
            · obtain ⟨hnk, hroom⟩ := of_decide_eq_true h
              have hXl : X.length ≤ G.n := by have := nodup_len G.n (keysOf X) I.tree.nodup (klt I); rwa [List.length_map] at this
              refine Es.cons (Ex.asgSub (Ev.loc (by walk_at "mem") (Ev.loc (by walk_at "mem") (Ev.loc (by walk_at "mem") (Si.dIn j2 (by rw [enc_len]; omega) (fun z => hnk ((enc_key ok (klt I) hyn).mp z)) fun e4 => ?_)))))
              have hst2 : (ρ'.upd sd (.dI (enc G X ++ [(G.nm y, .int (G.nm u))]) e4)) sd = some (.dI (enc G (X ++ [(y, some u)])) e4) := by
                rw [← enc_app]; exact Sig.upd_self
              have hb2 : σ.But (ρ'.upd sd (.dI (enc G X ++ [(G.nm y, .int (G.nm u))]) e4)) [] := Sig.But.new j1 sd0
              have ho2 : (ρ'.upd sd (.dI (enc G X ++ [(G.nm y, .int (G.nm u))]) e4)) pd = some (.dI (enc G P) e3) := (Sig.upd_ne pds).trans j3
              have hfa2 : (ρ'.upd sd (.dI (enc G X ++ [(G.nm y, .int (G.nm u))]) e4)) b = some (.list (ft.map fun i => .int (G.nm i))) := (Sig.upd_ne paf.symm).trans j4
              have hl2 : ∀ {x : Addr} {vs : List Val}, ρ' x = some (.list vs) → (ρ'.upd sd (.dI (enc G X ++ [(G.nm y, .int (G.nm u))]) e4)) x = some (.list vs) := fun {x vs} e => (Sig.upd_ne fun z => by rw [z, j2] at e; cases e).trans e
              have hq2 := hl2 j5
              generalize (ρ'.upd sd (.dI (enc G X ++ [(G.nm y, .int (G.nm u))]) e4)) = ρ2 at hst2 hb2 ho2 hfa2 hl2 hq2 ⊢
              refine Seq.next (Es.cons (Ex.ifs (Bt.cmp (Ev.loc (by walk_at "mem") (Ev.loc (by walk_at "mem") (Cm.inI ho2 (Tr.bool ⟨fun h1 => ?_, fun h1 => ?_⟩)))))))
              · have hino : y ∈ keysOf P := (enc_key ok olt hyn).mp (of_decide_eq_true h1)
                refine Es.cons (Ex.ret (Ev.tup (El.cons (Ev.loc (by walk_at "mem") (El.cons (Ev.loc (by walk_at "mem") (El.cons (Ev.loc (by walk_at "mem") (El.nil ⟨by simp, fun tp htp => ?_⟩)))))))))
                have hfinal := fun (hm : Met (Room G.n G.S c f) (Room G.n G.P (fun i j => c j i) (fun i j => f j i)) s t y P (X ++ [(y, some u)])) => qm y _ _ pd sd tp (ρ2.upd tp (.tup [.int (G.nm y), .ref pd, .ref sd])) hm Sig.upd_self ⟨e3, (Sig.upd_ne (Sig.ne ho2 htp)).trans ho2⟩ ⟨e4, (Sig.upd_ne (Sig.ne hst2 htp)).trans hst2⟩ (Sig.But.fresh hb2 htp)
                refine hfinal ?_
                have tr := I.tree.add (I.fsP u (List.mem_of_getElem? hu)) hnk hroom
                exact ⟨W.pt, tr, hino, keys_app.mpr (.inr rfl), fun w ho hw => (keys_app.mp hw).elim (fun z => absurd ho (I.dis w z)) id⟩
              · have hno : y ∉ keysOf P := fun z => of_decide_eq_false h1 ((enc_key ok olt hyn).mpr z)
                have hI2 := I.more hu hv hroom hnk hno
                have hq3 : (q ++ [y]).length ≤ 100 := by
                  have z1 := hI2.len
                  have z2 := nodup_len G.n (keysOf (X ++ [(y, some u)])) hI2.tree.nodup (klt hI2)
                  rw [List.length_map] at z2
                  omega
                rw [List.length_append] at hq3
                refine Es.nil (Seq.next (Es.cons (Ex.expr (Ev.meth (Ev.loc (by walk_at "mem") (Gm.append hq2 (El.cons (Ev.loc (by walk_at "mem") (El.nil (Ek.nil ⟨Kp.bi, Cl.append hq2 (by rw [List.length_map]; omega) (Seq.next (Es.nil (Seq.next (Es.nil ⟨⟨_, _, rfl⟩, X ++ [(y, some u)], q ++ [y], ?_⟩))))⟩))))))))))
                have qpa : qa ≠ sd := qap
                refine ⟨Sig.But.new hb2 qa0, ⟨e4, (Sig.upd_ne qap.symm).trans hst2⟩, ⟨e3, (Sig.upd_ne qao.symm).trans ho2⟩, (Sig.upd_ne qaf.symm).trans hfa2, (Sig.upd_ne (Sig.ne ha hqa)).trans (hl2 j4a), (Sig.upd_ne (Sig.ne hb hqa)).trans (hl2 j4b), ?_, hI2⟩
                rw [List.map_append]; exact Sig.upd_self
            · have hn := of_decide_eq_false h
              refine Es.nil (Seq.next (Es.nil ⟨⟨_, _, rfl⟩, X, q, j1, ⟨e2, j2⟩, ⟨e3, j3⟩, j4, j4a, j4b, j5, I.skip hu hv fun hr => ?_⟩))
              exact Classical.byContradiction fun z => hn ⟨z, hr⟩
        · rintro m' ρ ⟨⟨o2, o3, rfl⟩, X, q, j1, j2, j3, j4, j4a, j4b, j5, I⟩
          rw [Net.row_len] at I
          exact Seq.next (Es.nil ⟨⟨_, _, _, rfl⟩, X, q, j1, j2, j3, j4, j4a, j4b, j5, I.next hu fun u v h => h.2.1⟩)
    · rintro m' ρ ⟨⟨o1, o2, o3, rfl⟩, X, q, j1, ⟨e2, j2⟩, ⟨e3, j3⟩, j4, j4a, j4b, j5, I⟩
      rw [List.length_map] at I
      have hq3 : q.length ≤ 100 := by
        have z1 := I.len
        have z2 := nodup_len G.n (keysOf X) I.tree.nodup (klt I)
        rw [List.length_map] at z2
        omega
      refine Seq.next (Es.cons (Ex.ifs (Bt.not (Bt.val (Ev.loc (by walk_at "mem") (Tr.list j5 (by rw [List.length_map]; omega) ⟨fun h => ?_, fun h => ?_⟩))))))
      · have hq : q = [] := by cases q with
          | nil => rfl
          | cons x r => simp at h
        subst hq
        have clo : ∀ w ∈ keysOf X, ∀ v, (Room G.n G.P (fun i j => c j i) (fun i j => f j i)) w v → v ∈ keysOf X := fun w hw v hv => I.expl w hw (by simp) List.not_mem_nil v hv
        refine Es.cons (Ex.ret (Ev.tup (El.cons (Ev.none (El.cons (Ev.none (El.cons (Ev.none (El.nil ⟨by simp, fun tp htp => ?_⟩)))))))))
        refine qc tp _ ?_ Sig.upd_self (Sig.But.fresh j1 htp)
        exact cut_right ok (X := keysOf X) I.tree.has_root (fun z => I.dis s z W.pt.has_root) clo
      · have hq : q ≠ [] := fun z => by rw [z] at h; simp at h
        have hql : 0 < q.length := List.length_pos_iff.mpr hq
        refine Es.nil (Seq.next (Es.cons (Ex.asg (Ev.loc (by walk_at "mem") ?_))))
        walk_at "stok"
        have z1 := I.len
        have z2 := nodup_len G.n (keysOf X) I.tree.nodup (klt I)
        have z3 := nodup_len G.n (keysOf P) W.pt.nodup olt
        rw [List.length_map] at z2 z3
        refine Seq.next (Es.nil (Seq.next (Es.nil ⟨2 * G.n - P.length - X.length, by omega, P, X, fs, q, pd, sd, a, qa, _, _, _, _, rfl, by omega, j1, ⟨e3, j3⟩, ⟨e2, j2⟩, j4a, j5, pd0, sd0, pds, ⟨W.pt, I.tree, fun w hw ho => I.dis w ho hw, W.fp, I.qP, W.ep, fun w hw n v hv => I.expl w hw (by simp) n v hv, W.fl, hq3⟩⟩)))
end
inductive Way (R : Nat → Nat → Prop) : Nat → Nat → List Nat → Prop
  | nil (a : Nat) : Way R a a [a]
  | cons {a c b : Nat} {l : List Nat} : R a c → Way R c b l → Way R a b (a :: l)
theorem Way.ne {R : Nat → Nat → Prop} {a b : Nat} {l : List Nat} (h : Way R a b l) : l ≠ [] := by cases h <;> simp
theorem Way.snoc {R : Nat → Nat → Prop} {a b c : Nat} {l : List Nat} (h : Way R a b l) (hr : R b c) : Way R a c (l ++ [c]) := by
  induction h with
  | nil a => exact .cons hr (.nil c)
  | cons h1 h2 ih => exact .cons h1 (ih hr)
theorem Way.reverse {R : Nat → Nat → Prop} {a b : Nat} {l : List Nat} (h : Way (fun x y => R y x) a b l) : Way R b a l.reverse := by
  induction h with
  | nil a => exact .nil a
  | cons h1 h2 ih => rw [List.reverse_cons]; exact ih.snoc h1
theorem Way.head {R : Nat → Nat → Prop} {a b : Nat} {l : List Nat} (h : Way R a b l) : ∃ r, l = a :: r := by cases h <;> exact ⟨_, rfl⟩
theorem Way.steps {R : Nat → Nat → Prop} {a b : Nat} {l : List Nat} (h : Way R a b l) : ∀ e ∈ steps l, R e.1 e.2 := by
  induction h with
  | nil a => intro e he; simp [Mine.steps] at he
  | cons h1 h2 ih =>
    obtain ⟨r, rfl⟩ := h2.head
    intro e he
    change e ∈ (_, _) :: Mine.steps (_ :: r) at he
    rcases List.mem_cons.mp he with rfl | he
    · exact h1
    · exact ih e he
noncomputable def idx : List (Nat × Option Nat) → Nat → Nat
  | [], _ => 0
  | e :: r, v => if e.1 = v then 0 else idx r v + 1
theorem idx_app {l m : List (Nat × Option Nat)} {v : Nat} (h : v ∈ keysOf l) : idx (l ++ m) v = idx l v := by
  induction l with
  | nil => cases h
  | cons e r ih =>
    show (if e.1 = v then 0 else idx (r ++ m) v + 1) = if e.1 = v then 0 else idx r v + 1
    by_cases x : e.1 = v
    · rw [if_pos x, if_pos x]
    · rw [if_neg x, if_neg x, ih ((List.mem_cons.mp h).resolve_left fun z => x z.symm)]
theorem idx_lt {l : List (Nat × Option Nat)} {v : Nat} (h : v ∈ keysOf l) : idx l v < l.length := by
  induction l with
  | nil => cases h
  | cons e r ih =>
    show (if e.1 = v then 0 else idx r v + 1) < r.length + 1
    by_cases x : e.1 = v
    · rw [if_pos x]; omega
    · rw [if_neg x]; have := ih ((List.mem_cons.mp h).resolve_left fun z => x z.symm); omega
theorem idx_new {l : List (Nat × Option Nat)} {v : Nat} {o : Option Nat} (h : v ∉ keysOf l) : idx (l ++ [(v, o)]) v = l.length := by
  induction l with
  | nil => show (if v = v then 0 else _) = 0; rw [if_pos rfl]
  | cons e r ih =>
    show (if e.1 = v then 0 else idx (r ++ [(v, o)]) v + 1) = r.length + 1
    have x : e.1 ≠ v := fun x => h (by rw [← x]; exact .head _)
    rw [if_neg x, ih fun m => h (.tail _ m)]
theorem Tree.parent {R : Nat → Nat → Prop} {root : Nat} {l : List (Nat × Option Nat)} (h : Tree R root l) : ∀ v ∈ keysOf l, v ≠ root → ∃ u, (v, some u) ∈ l ∧ u ∈ keysOf l ∧ R u v ∧ idx l u < idx l v := by
  induction h with
  | root => intro v hv hn; simp only [keysOf, List.map_cons, List.map_nil, List.mem_singleton] at hv; exact absurd hv hn
  | add h hu hv hr ih =>
    rename_i l u v
    have ia : ∀ w ∈ keysOf l, idx (l ++ [(v, some u)]) w = idx l w := fun w hw => by
      exact idx_app hw
    intro w hw hn
    rcases keys_app.mp hw with hw | rfl
    · obtain ⟨u', h1, h2, h3, h4⟩ := ih w hw hn
      exact ⟨u', List.mem_append_left _ h1, keys_app.mpr (.inl h2), h3, by rw [ia _ h2, ia _ hw]; exact h4⟩
    · refine ⟨u, List.mem_append_right _ (List.mem_singleton.mpr rfl), keys_app.mpr (.inl hu), hr, ?_⟩
      rw [ia _ hu]
      have h1 : idx l u < l.length := idx_lt hu
      have h2 : idx (l ++ [(w, some u)]) w = l.length := idx_new hv
      omega
theorem enc_mem {G : Net} {l : List (Nat × Option Nat)} {v : Nat} {o : Option Nat} (h : (v, o) ∈ l) : (G.nm v, encV G o) ∈ enc G l := List.mem_map.mpr ⟨_, h, rfl⟩
/-- a way that may be filled -/
structure Road (G : Net) (c f : Nat → Nat → Int) (s t : Nat) (p : List Nat) : Prop where
  way : Way (Room G.n G.S c f) s t p
  nd : p.Nodup
/-- down the one tree -/
structure Up (G : Net) (R : Nat → Nat → Prop) (P : List (Nat × Option Nat)) (v u : Nat) (l : List Nat) : Prop where
  way : Way (fun x y => R y x) v u l
  nd : l.Nodup
  on : ∀ x ∈ l, x ∈ keysOf P ∧ idx P u ≤ idx P x
theorem Up.start {G : Net} {R : Nat → Nat → Prop} {P : List (Nat × Option Nat)} {v : Nat} (hv : v ∈ keysOf P) : Up G R P v v [v] :=
  ⟨.nil v, by simp, fun x hx => by rw [List.mem_singleton.mp hx]; exact ⟨hv, Nat.le_refl _⟩⟩
theorem Way.last {R : Nat → Nat → Prop} {a b : Nat} {l : List Nat} (h : Way R a b l) : b ∈ l := by
  induction h with
  | nil a => exact .head _
  | cons h1 h2 ih => exact .tail _ ih
theorem Up.more {G : Net} {R : Nat → Nat → Prop} {root : Nat} {P : List (Nat × Option Nat)} {v u : Nat} {l : List Nat} (h : Up G R P v u l) (T : Tree R root P) (hn : u ≠ root) :
    ∃ w, (u, some w) ∈ P ∧ idx P w < idx P u ∧ Up G R P v w (l ++ [w]) := by
  obtain ⟨w, h1, h2, h3, h4⟩ := T.parent u (h.on u h.way.last).1 hn
  refine ⟨w, h1, h4, h.way.snoc h3, ?_, fun x hx => ?_⟩
  · refine List.nodup_append.mpr ⟨h.nd, by simp, fun a ha b hb e => ?_⟩
    rw [List.mem_singleton.mp hb] at e
    have := (h.on a ha).2
    rw [e] at this; omega
  · rcases List.mem_append.mp hx with hx | hx
    · have := h.on x hx; exact ⟨this.1, by omega⟩
    · rw [List.mem_singleton.mp hx]; exact ⟨h2, Nat.le_refl _⟩
/-- and on through the other -/
structure On (G : Net) (c f : Nat → Nat → Int) (P O : List (Nat × Option Nat)) (s v u : Nat) (l : List Nat) : Prop where
  way : Way (Room G.n G.S c f) s u l
  nd : l.Nodup
  uo : u ∈ keysOf O
  le : idx O u ≤ idx O v
  on : ∀ x ∈ l, x ∈ keysOf P ∨ (x ∈ keysOf O ∧ idx O u ≤ idx O x)
theorem Up.on' {G : Net} {c f : Nat → Nat → Int} {P O : List (Nat × Option Nat)} {s v : Nat} {l : List Nat} (h : Up G (Room G.n G.S c f) P v s l) (hv : v ∈ keysOf O) : On G c f P O s v v l.reverse :=
  ⟨h.way.reverse, List.pairwise_reverse.mpr (h.nd.imp fun h => Ne.symm h), hv, Nat.le_refl _, fun x hx => .inl (h.on x (List.mem_reverse.mp hx)).1⟩
theorem On.more {G : Net} (ok : G.Ok) {c f : Nat → Nat → Int} {P O : List (Nat × Option Nat)} {s t v u : Nat} {l : List Nat} (h : On G c f P O s v u l) (M : Met (Room G.n G.S c f) (Room G.n G.P (fun i j => c j i) (fun i j => f j i)) s t v P O) (hn : u ≠ t) :
    ∃ w, (u, some w) ∈ O ∧ idx O w < idx O u ∧ On G c f P O s v w (l ++ [w]) := by
  obtain ⟨w, h1, h2, ⟨hw, h3, h4⟩, h5⟩ := M.ot.parent u h.uo hn
  have hu : u < G.n := ok.plt u w hw h3
  refine ⟨w, h1, h5, h.way.snoc ⟨hu, (ok.ps u w hu hw).mp h3, h4⟩, ?_, h2, by have := h.le; omega, fun x hx => ?_⟩
  · refine List.nodup_append.mpr ⟨h.nd, by simp, fun a ha b hb e => ?_⟩
    rw [List.mem_singleton.mp hb] at e
    rcases h.on a ha with z | z
    · have := M.only w (e ▸ z) h2
      have hl := h.le
      rw [← this] at hl; omega
    · have := z.2; rw [e] at this; omega
  · rcases List.mem_append.mp hx with hx | hx
    · exact (h.on x hx).imp id fun z => ⟨z.1, by omega⟩
    · rw [List.mem_singleton.mp hx]; exact .inr ⟨h2, Nat.le_refl _⟩
theorem But.edges {G : Net} {σ τ υ : Sig} (h : σ.But τ G.edges) (h' : τ.But υ []) : σ.But υ G.edges := (h.trans h').mono fun a ha => by rwa [List.append_nil] at ha
theorem But.edges2 {G : Net} {σ τ υ : Sig} (h : σ.But τ G.edges) (h' : τ.But υ G.edges) : σ.But υ G.edges := (h.trans h').mono fun a ha => (List.mem_append.mp ha).elim id id
theorem Turn.brk {Q : Fl → LM → Sig → Prop} {I : LM → Sig → Prop} {m : LM} {σ : Sig} (h : Q .next m σ) : Turn Q I .brk m σ := h
section
variable {B : Bd} {φ : Phi} {A : Around} {σ : Sig} {E : Value → Shared → Prop}
theorem core_loop {G : Net} {env : Env} {x ga gb crp crs cs ct ci ca cb : Addr} {d1 p1 t1 d2 p2 t2 : Value} {c f₀ : Nat → Nat → Int} {gr kvs : List (Str × Val)} {out : Bool} {s t : Nat} {inf : Int} {cv vn : Val} {ltb : Int → Bool} {Q : Val → Sig → Prop}
    {Inv : (Nat → Nat → Int) → Int → Prop} {Bad : (Nat → Nat → Int) → Prop} {μ : (Nat → Nat → Int) → Int → Nat}
    (hA : AOk A 3) (hh : A.handled = none) (hE' : PassesOwn (M0 B.w) A env E) (hcv : ∀ (φ : Phi) (A : Around) (σ : Sig) (E : Value → Shared → Prop) (Q : Val → Sig → Prop) (i : Int), Q (.bool (ltb i)) σ → Cm B φ A .Lt (.int i) cv σ Q E)
    (hga : σ ga = some (.obj (augC B.w crs ci ca d1 p1 t1))) (hca : σ ca = some (codeC (Str.ofString "edmonds_karp_core.<locals>.augment")))
    (hgb : σ gb = some (.obj (bfsC B.w crp crs cs ct cb d2 p2 t2))) (hcb : σ cb = some (codeC (Str.ofString "edmonds_karp_core.<locals>.bidirectional_bfs")))
    (hcs : σ cs = some (.cel (some (.int (G.nm s))))) (hct : σ ct = some (.cel (some (.int (G.nm t))))) (hcrs : σ crs = some (.cel (some (.ref G.sc)))) (hcrp : σ crp = some (.cel (some (.ref G.pr)))) (hci : σ ci = some (.cel (some (.int inf))))
    (h : G.At σ c f₀ gr kvs out) (hs : s < G.n) (ht : t < G.n) (hst : s ≠ t) (hsym : ∀ u v, u < G.n → v < G.n → v ∈ G.S u → u ∈ G.S v)
    (hI : Inv f₀ 0) (hstep : ∀ f k p, Inv f k → ltb k = true → Road G c f s t p → (inf < bott c f inf (steps p) * 2 → Bad f) ∧
      (¬ inf < bott c f inf (steps p) * 2 → Inv (augAll (bott c f inf (steps p)) f (steps p)) (k + bott c f inf (steps p)) ∧ μ (augAll (bott c f inf (steps p)) f (steps p)) (k + bott c f inf (steps p)) < μ f k))
    (hE : ∀ f m' v s' σ', Bad f → Exc B ((env.locals, .fr ⟨env, [(Str.ofString "s", cs), (Str.ofString "t", ct), (Str.ofString "R_pred", crp), (Str.ofString "R_succ", crs), (Str.ofString "inf", ci)], []⟩ m') :: φ) σ' 68 v s' → G.At σ' c f gr kvs out → σ.But σ' G.edges → E v s')
    (q : ∀ f k σ', Inv f k → (ltb k = false ∨ Cut G c f s t) → G.At σ' c f gr kvs out → σ.But σ' G.edges → Q (.int k) σ') :
    Es B φ A ⟨env, [(Str.ofString "s", cs), (Str.ofString "t", ct), (Str.ofString "R_pred", crp), (Str.ofString "R_succ", crs), (Str.ofString "inf", ci)], []⟩
      [(Str.ofString "R", some (.ref x)), (Str.ofString "cutoff", some cv), (Str.ofString "R_nodes", some vn), (Str.ofString "augment", some (.ref ga)), (Str.ofString "bidirectional_bfs", some (.ref gb)), (Str.ofString "flow_value", none), (Str.ofString "v", none), (Str.ofString "pred", none), (Str.ofString "succ", none), (Str.ofString "path", none), (Str.ofString "u", none)]
      ((bodyOf B.w 700).drop 6) σ (fun r _ σ' => Q (retOf r) σ') E := by
  have ok := h.ok
  have hnle := ok.le
  have ne : ∀ {a : Addr} {x : Cell}, σ a = some x → (∀ l, x ≠ .dS l) → a ∉ G.edges := fun {a x} e n m => by
    obtain ⟨_, e'⟩ := h.edge_is m
    rw [e] at e'; cases e'; exact n _ rfl
  have kp : ∀ {τ : Sig} {a : Addr} {x : Cell}, σ.But τ G.edges → σ a = some x → (∀ l, x ≠ .dS l) → τ a = some x := fun b e n => b _ _ e (ne e n)
  have road : ∀ {f : Nat → Nat → Int} {p : List Nat}, Road G c f s t p → ∀ e ∈ steps p, stepOk G e := fun {f p} R e he => by
    obtain ⟨h1, h2, _⟩ := R.way.steps e he
    have h3 := ok.slt _ _ h1 h2
    exact ⟨h1, h3, h2, hsym _ _ h1 h3 h2⟩
  refine Es.cons (Ex.asg (Ev.int ?_))
  walk_at "stok"
  refine Seq.next (Es.cons (Ex.while (fun n m' τ => ∃ f k o1 o2 o3 o4 o5, m' = [(Str.ofString "R", some (.ref x)), (Str.ofString "cutoff", some cv), (Str.ofString "R_nodes", some vn), (Str.ofString "augment", some (.ref ga)), (Str.ofString "bidirectional_bfs", some (.ref gb)), (Str.ofString "flow_value", some (.int k)), (Str.ofString "v", o1), (Str.ofString "pred", o2), (Str.ofString "succ", o3), (Str.ofString "path", o4), (Str.ofString "u", o5)] ∧
    μ f k = n ∧ Inv f k ∧ G.At τ c f gr kvs out ∧ σ.But τ G.edges) (μ f₀ 0) ⟨f₀, 0, _, _, _, _, _, rfl, rfl, hI, h, Sig.But.refl⟩ hE' ?_))
  rintro n m' τ ⟨f, k, o1, o2, o3, o4, o5, rfl, hμ, hInv, hN, hb⟩
  refine Bt.cmp (Ev.loc (by walk_at "mem") (Ev.loc (by walk_at "mem") (hcv _ _ _ _ _ _ (Tr.bool ⟨fun hlt => ?_, fun hlt => ?_⟩))))
  rotate_left
  · exact Seq.next (Es.cons (Ex.ret (Ev.loc (by walk_at "mem") (q f k τ hInv (.inl hlt) hN hb))))
  have hN' := hN
  have cs1 := kp hb hcs (by intros; exact fun e => nomatch e)
  have ct1 := kp hb hct (by intros; exact fun e => nomatch e)
  refine Es.cons (Ex.asgTup (Ev.callL (by walk_at "mem") (El.nil (Ek.nil ⟨Kp.fn (kp hb hgb (by intros; exact fun e => nomatch e)) rfl, bfs_spec (hA.le (by decide)) hh (kp hb hgb (by intros; exact fun e => nomatch e)) (kp hb hcb (by intros; exact fun e => nomatch e)) cs1 ct1 (kp hb hcrs (by intros; exact fun e => nomatch e)) (kp hb hcrp (by intros; exact fun e => nomatch e)) hN hs ht hst ?_ ?_⟩))))
  rotate_left
  · -- nothing is left
    intro tp τ₁ hcut htp b1
    refine As.tup3 hh htp (As.name ⟨_, by walk_at "sto", As.name ⟨_, by walk_at "sto", As.name ⟨_, by walk_at "sto", Seq.next ?_⟩⟩⟩)
    refine Es.cons (Ex.ifs (Bt.cmp (Ev.loc (by walk_at "mem") (Ev.none (Cm.isNoneT (Tr.bool (tT ?_)))))))
    refine Es.cons (Ex.brk ?_)
    refine Seq.brk (Seq.brk (Turn.brk ?_))
    exact Seq.next (Es.cons (Ex.ret (Ev.loc (by walk_at "mem") (q f k τ₁ hInv (.inr hcut) (hN.keep0 b1) (But.edges hb b1)))))
  intro v P O pd sd tp τ₁ M htp ⟨ep1, hpd⟩ ⟨ep2, hsd⟩ b1
  refine As.tup3 hh htp (As.name ⟨_, by walk_at "sto", As.name ⟨_, by walk_at "sto", As.name ⟨_, by walk_at "sto", Seq.next ?_⟩⟩⟩)
  refine Es.cons (Ex.ifs (Bt.cmp (Ev.loc (by walk_at "mem") (Ev.none (Cm.isNoneF (by intro e; cases e) (Tr.bool (tF (Es.nil (Seq.next ?_)))))))))
  have hN1 := hN.keep0 b1
  have hb1 := But.edges hb b1
  have plt : ∀ w ∈ keysOf P, w < G.n := M.pt.lt hs fun u v h => ok.slt u v h.1 h.2.1
  have olt : ∀ w ∈ keysOf O, w < G.n := M.ot.lt ht fun u v h => ok.plt v u h.1 h.2.1
  refine Es.cons (Ex.asg (Ev.list (El.cons (Ev.loc (by walk_at "mem") (El.nil ⟨by simp, fun pl hpl0 => ?_⟩)))))
  walk_at "stok"
  refine Seq.next (Es.cons (Ex.asg (Ev.loc (by walk_at "mem") ?_)))
  walk_at "stok"
  have hpd2 : (τ₁.upd pl (.list [.int (G.nm v)])) pd = some (.dI (enc G P) ep1) := (Sig.upd_ne (Sig.ne hpd hpl0)).trans hpd
  have hsd2 : (τ₁.upd pl (.list [.int (G.nm v)])) sd = some (.dI (enc G O) ep2) := (Sig.upd_ne (Sig.ne hsd hpl0)).trans hsd
  have pdl : pd ≠ pl := Sig.ne hpd hpl0
  have sdl : sd ≠ pl := Sig.ne hsd hpl0
  have pln : ∀ {a : Addr} {x : Cell}, τ₁ a = some x → a ≠ pl := fun e => Sig.ne e hpl0
  -- back to the source
  refine Seq.next (Es.cons (Ex.while (fun n m' υ => ∃ u L, m' = [(Str.ofString "R", some (.ref x)), (Str.ofString "cutoff", some cv), (Str.ofString "R_nodes", some vn), (Str.ofString "augment", some (.ref ga)), (Str.ofString "bidirectional_bfs", some (.ref gb)), (Str.ofString "flow_value", some (.int k)), (Str.ofString "v", some (.int (G.nm v))), (Str.ofString "pred", some (.ref pd)), (Str.ofString "succ", some (.ref sd)), (Str.ofString "path", some (.ref pl)), (Str.ofString "u", some (.int (G.nm u)))] ∧
    idx P u = n ∧ Up G (Room G.n G.S c f) P v u L ∧ υ = τ₁.upd pl (.list (L.map fun i => .int (G.nm i)))) (idx P v) ⟨v, [v], rfl, rfl, Up.start M.vp, rfl⟩ hE' ?_))
  rintro n1 m' υ ⟨u, L, rfl, hn1, hU, rfl⟩
  have hul := plt u (hU.on u hU.way.last).1
  have hLl : L.length ≤ 10 := Nat.le_trans (nodup_len G.n L hU.nd fun w hw => plt w (hU.on w hw).1) hnle
  refine Bt.cmp (Ev.loc (by walk_at "mem") (Ev.cel (by walk_at "mem") ((Sig.upd_ne (pln (b1 _ _ cs1 List.not_mem_nil))).trans (b1 _ _ cs1 List.not_mem_nil)) (Cm.ne (Tr.bool ⟨fun hne => ?_, fun heq => ?_⟩))))
  · have hus : u ≠ s := fun e => by rw [e, decide_eq_true rfl] at hne; cases hne
    obtain ⟨w, hw1, hw2, hw3⟩ := hU.more M.pt hus
    refine Es.cons (Ex.asg (Ev.sub (Ev.loc (by walk_at "mem") (Ev.loc (by walk_at "mem") (Su.dI ((Sig.upd_ne pdl).trans hpd) (enc_mem hw1) ?_)))))
    walk_at "stok"
    refine Seq.next (Es.cons (Ex.expr (Ev.meth (Ev.loc (by walk_at "mem") (Gm.append Sig.upd_self (El.cons (Ev.loc (by walk_at "mem") (El.nil (Ek.nil ⟨Kp.bi, Cl.append Sig.upd_self (by rw [List.length_map]; omega) (Seq.next (Es.nil ⟨idx P w, by omega, w, L ++ [w], rfl, rfl, hw3, ?_⟩))⟩)))))))))
    rw [Sig.upd_upd, List.map_append]; rfl
  have hus : u = s := by
    have : G.nm u = G.nm s := by
      cases e : decide (G.nm u = G.nm s) with
      | true => exact of_decide_eq_true e
      | false => rw [e] at heq; cases heq
    exact ok.inj _ _ hul hs this
  subst hus
  refine Seq.next (Es.cons (Ex.expr (Ev.meth (Ev.loc (by walk_at "mem") (Gm.reverse Sig.upd_self (El.nil (Ek.nil ⟨Kp.bi, Cl.reverse Sig.upd_self (by rw [List.length_map]; omega) ?_⟩)))))))
  rw [Sig.upd_upd, ← List.map_reverse]
  have hO := hU.on' M.vo
  generalize L.reverse = L₂ at hO
  refine Seq.next (Es.cons (Ex.asg (Ev.loc (by walk_at "mem") ?_)))
  walk_at "stok"
  -- on to the sink
  refine Seq.next (Es.cons (Ex.while (fun n m' υ => ∃ w L, m' = [(Str.ofString "R", some (.ref x)), (Str.ofString "cutoff", some cv), (Str.ofString "R_nodes", some vn), (Str.ofString "augment", some (.ref ga)), (Str.ofString "bidirectional_bfs", some (.ref gb)), (Str.ofString "flow_value", some (.int k)), (Str.ofString "v", some (.int (G.nm v))), (Str.ofString "pred", some (.ref pd)), (Str.ofString "succ", some (.ref sd)), (Str.ofString "path", some (.ref pl)), (Str.ofString "u", some (.int (G.nm w)))] ∧
    idx O w = n ∧ On G c f P O u v w L ∧ υ = τ₁.upd pl (.list (L.map fun i => .int (G.nm i)))) (idx O v) ⟨v, L₂, rfl, rfl, hO, rfl⟩ hE' ?_))
  rintro n2 m' υ ⟨w, L3, rfl, hn2, hW, rfl⟩
  have hwl := olt w hW.uo
  have hLl3 : L3.length ≤ 10 := Nat.le_trans (nodup_len G.n L3 hW.nd fun y hy => (hW.on y hy).elim (plt y) fun z => olt y z.1) hnle
  refine Bt.cmp (Ev.loc (by walk_at "mem") (Ev.cel (by walk_at "mem") ((Sig.upd_ne (pln (b1 _ _ ct1 List.not_mem_nil))).trans (b1 _ _ ct1 List.not_mem_nil)) (Cm.ne (Tr.bool ⟨fun hne => ?_, fun heq2 => ?_⟩))))
  · have hwt : w ≠ t := fun e => by rw [e, decide_eq_true rfl] at hne; cases hne
    obtain ⟨y, hw1, hw2, hw3⟩ := hW.more ok M hwt
    refine Es.cons (Ex.asg (Ev.sub (Ev.loc (by walk_at "mem") (Ev.loc (by walk_at "mem") (Su.dI ((Sig.upd_ne sdl).trans hsd) (enc_mem hw1) ?_)))))
    walk_at "stok"
    refine Seq.next (Es.cons (Ex.expr (Ev.meth (Ev.loc (by walk_at "mem") (Gm.append Sig.upd_self (El.cons (Ev.loc (by walk_at "mem") (El.nil (Ek.nil ⟨Kp.bi, Cl.append Sig.upd_self (by rw [List.length_map]; omega) (Seq.next (Es.nil ⟨idx O y, by omega, y, L3 ++ [y], rfl, rfl, hw3, ?_⟩))⟩)))))))))
    rw [Sig.upd_upd, List.map_append]; rfl
  have hwt : w = t := by
    have : G.nm w = G.nm t := by
      cases e : decide (G.nm w = G.nm t) with
      | true => exact of_decide_eq_true e
      | false => rw [e] at heq2; cases heq2
    exact ok.inj _ _ hwl ht this
  subst hwt
  have R : Road G c f u w L3 := ⟨hW.way, hW.nd⟩
  obtain ⟨hbad, hgood⟩ := hstep f k L3 hInv hlt R
  have b2 : τ₁.But (τ₁.upd pl (.list (L3.map fun i => .int (G.nm i)))) [] := Sig.But.new Sig.But.refl hpl0
  have hN3 := hN1.keep0 b2
  have hb3 := But.edges hb1 b2
  have hL0 : 0 < L3.length := List.length_pos_iff.mpr hW.way.ne
  refine Seq.next (Es.cons (Ex.aug (by walk_at "mem") (Ev.callL (by walk_at "mem") (El.cons (Ev.loc (by walk_at "mem") (El.nil (Ek.nil ⟨Kp.fn (kp hb3 hga (by intros; exact fun e => nomatch e)) rfl, augment_spec (hA.le (by decide)) hh (kp hb3 hga (by intros; exact fun e => nomatch e)) (kp hb3 hca (by intros; exact fun e => nomatch e)) (kp hb3 hci (by intros; exact fun e => nomatch e)) (kp hb3 hcrs (by intros; exact fun e => nomatch e)) hN3 Sig.upd_self hL0 (by omega) (road R) ?_ ?_⟩)))))))
  · intro hlt' v' s' σ' X bx
    exact hE f _ v' s' σ' (hbad hlt') X (hN3.keep0 bx) (But.edges hb3 bx)
  · intro σ' hnl hN4 b4
    refine Ip.add fun r hr => ?_
    rw [hr]
    obtain ⟨g1, g2⟩ := hgood hnl
    refine ⟨_, by walk_at "sto", Seq.next (Es.nil ⟨_, ?_, _, _, _, _, _, _, _, rfl, rfl, g1, hN4, But.edges2 hb3 b4⟩)⟩
    rw [← hμ]; exact g2
end
noncomputable def augQ : Str := Str.ofString "edmonds_karp_core.<locals>.augment"
noncomputable def bfsQ : Str := Str.ofString "edmonds_karp_core.<locals>.bidirectional_bfs"
noncomputable def tab3 (c1 : Addr) : Array Value := #[] ++ #[rawInt 506, rawInt 4, .ref c1]
noncomputable def tab6 (c1 c2 : Addr) : Array Value := tab3 c1 ++ #[rawInt 524, rawInt 4, .ref c2]
/-- the table of core's own code: empty, or both defs have been made -/
noncomputable def CoreTab (σ : Sig) : Prop := σ 695 = some (.obj (tabObj #[])) ∨ ∃ c1 c2, σ 695 = some (.obj (tabObj (tab6 c1 c2))) ∧ σ c1 = some (codeC augQ) ∧ σ c2 = some (codeC bfsQ)
theorem CoreTab.keep {σ τ : Sig} {l : List Addr} (h : CoreTab σ) (b : σ.But τ l) (h0 : 695 ∉ l) (hl : ∀ a ∈ l, ∀ x, σ a ≠ some (codeC x)) : CoreTab τ := by
  rcases h with h | ⟨c1, c2, h1, h2, h3⟩
  · exact .inl (b _ _ h h0)
  · exact .inr ⟨c1, c2, b _ _ h1 h0, b _ _ h2 fun m => hl _ m _ h2, b _ _ h3 fun m => hl _ m _ h3⟩
section
variable {B : Bd} {φ : Phi} {A : Around} {σ : Sig} {E : Value → Shared → Prop}
theorem core_mid {G : Net} {env : Env} {crp crs cs ct ci : Addr} {c f₀ : Nat → Nat → Int} {gr kvs : List (Str × Val)} {s t : Nat} {inf : Int} {cv vn : Val} {ltb : Int → Bool} {Q : Val → Sig → Prop}
    {Inv : (Nat → Nat → Int) → Int → Prop} {Bad : (Nat → Nat → Int) → Prop} {μ : (Nat → Nat → Int) → Int → Nat}
    (hA : AOk A 3) (hh : A.handled = none) (hE' : PassesOwn (M0 B.w) A env E) (hcode : env.code = .ref 699) (hqual : env.qual = Str.ofString "edmonds_karp_core.<locals>.") (hcv : ∀ (φ : Phi) (A : Around) (σ : Sig) (E : Value → Shared → Prop) (Q : Val → Sig → Prop) (i : Int), Q (.bool (ltb i)) σ → Cm B φ A .Lt (.int i) cv σ Q E)
    (hcs : σ cs = some (.cel (some (.int (G.nm s))))) (hct : σ ct = some (.cel (some (.int (G.nm t))))) (hcrs : σ crs = some (.cel (some (.ref G.sc)))) (hcrp : σ crp = some (.cel (some (.ref G.pr)))) (hci : σ ci = some (.cel none))
    (cne : ci ≠ cs ∧ ci ≠ ct ∧ ci ≠ crs ∧ ci ≠ crp)
    (h : G.At σ c f₀ gr kvs true) (hgr : (Str.ofString "inf", Val.int inf) ∈ gr) (hT : CoreTab σ) (hs : s < G.n) (ht : t < G.n) (hst : s ≠ t) (hsym : ∀ u v, u < G.n → v < G.n → v ∈ G.S u → u ∈ G.S v)
    (hI : Inv f₀ 0) (hstep : ∀ f k p, Inv f k → ltb k = true → Road G c f s t p → (inf < bott c f inf (steps p) * 2 → Bad f) ∧
      (¬ inf < bott c f inf (steps p) * 2 → Inv (augAll (bott c f inf (steps p)) f (steps p)) (k + bott c f inf (steps p)) ∧ μ (augAll (bott c f inf (steps p)) f (steps p)) (k + bott c f inf (steps p)) < μ f k))
    (hE : ∀ f m' v s' σ', Bad f → Exc B ((env.locals, .fr ⟨env, [(Str.ofString "s", cs), (Str.ofString "t", ct), (Str.ofString "R_pred", crp), (Str.ofString "R_succ", crs), (Str.ofString "inf", ci)], []⟩ m') :: φ) σ' 68 v s' → G.At σ' c f gr kvs true → σ.But σ' (695 :: ci :: G.edges) → CoreTab σ' → E v s')
    (q : ∀ f k σ', Inv f k → (ltb k = false ∨ Cut G c f s t) → G.At σ' c f gr kvs true → σ.But σ' (695 :: ci :: G.edges) → CoreTab σ' → Q (.int k) σ') :
    Es B φ A ⟨env, [(Str.ofString "s", cs), (Str.ofString "t", ct), (Str.ofString "R_pred", crp), (Str.ofString "R_succ", crs), (Str.ofString "inf", ci)], []⟩
      [(Str.ofString "R", some (.ref G.x)), (Str.ofString "cutoff", some cv), (Str.ofString "R_nodes", some vn), (Str.ofString "augment", none), (Str.ofString "bidirectional_bfs", none), (Str.ofString "flow_value", none), (Str.ofString "v", none), (Str.ofString "pred", none), (Str.ofString "succ", none), (Str.ofString "path", none), (Str.ofString "u", none)]
      ((bodyOf B.w 700).drop 3) σ (fun r _ σ' => Q (retOf r) σ') E := by
  have ok := h.ok
  obtain ⟨n1, n2, n3, n4⟩ := cne
  -- inf = R.graph['inf']
  refine Es.cons (Ex.asgC' (c := ci) (by walk_at "mem") (Ev.sub (Ev.attr (Ev.loc (by walk_at "mem") (Ga.attr ga_graph h.hx h.hd gd_graph (Ev.str (Su.dS h.hg hgr ⟨_, hci, Seq.next ?_⟩)))))))
  have hNk : ∀ {τ : Sig} {f}, G.At σ c f gr kvs true → σ.But τ [695, ci] → G.At τ c f gr kvs true := fun {τ f} h b => by
    have n5 : ∀ {a : Addr} {x : Cell}, σ a = some x → (∀ o, x ≠ .obj o) → 695 ≠ a := fun {a x} e n z => by
      rcases hT with h | ⟨_, _, h, _⟩ <;> (rw [← z, h] at e; cases e; exact n _ rfl)
    have n6 : ∀ {a : Addr} {x : Cell}, σ a = some x → (∀ o, x ≠ .cel o) → ci ≠ a := fun {a x} e n z => by
      rw [← z, hci] at e; cases e; exact n _ rfl
    have n7 : ∀ {a : Addr} {x : Cell}, σ a = some x → (∀ o, x ≠ .obj o) → (∀ o, x ≠ .cel o) → ∀ b ∈ [695, ci], b ≠ a := fun {a x} e h1 h2 b hb => by
      rcases List.mem_cons.mp hb with rfl | hb
      · exact n5 e h1
      · rw [List.mem_singleton.mp hb]; exact n6 e h2
    refine h.keep b fun a ha => ?_
    have nd : ∀ {b : Addr} {x : Cell}, σ b = some x → (∀ o, x ≠ .obj o) → (∀ o, x ≠ .cel o) → a ≠ b := fun e h1 h2 => n7 e h1 h2 a ha
    refine ⟨nd h.hx (by intros; exact fun e => nomatch e) (by intros; exact fun e => nomatch e), nd h.hd (by intros; exact fun e => nomatch e) (by intros; exact fun e => nomatch e), nd h.hg (by intros; exact fun e => nomatch e) (by intros; exact fun e => nomatch e), ?_, ?_, ?_, fun i hi => ⟨?_, ?_⟩, fun i j hi hj => nd (h.hea i j hi hj) (by intros; exact fun e => nomatch e) (by intros; exact fun e => nomatch e)⟩
    · obtain ⟨_, q⟩ := h.hnd; exact nd q (by intros; exact fun e => nomatch e) (by intros; exact fun e => nomatch e)
    · obtain ⟨_, q⟩ := h.hsc; exact nd q (by intros; exact fun e => nomatch e) (by intros; exact fun e => nomatch e)
    · obtain ⟨_, q⟩ := h.hpr; exact nd q (by intros; exact fun e => nomatch e) (by intros; exact fun e => nomatch e)
    · obtain ⟨_, q⟩ := h.hsa i hi; exact nd q (by intros; exact fun e => nomatch e) (by intros; exact fun e => nomatch e)
    · obtain ⟨_, q⟩ := h.hpa i hi; exact nd q (by intros; exact fun e => nomatch e) (by intros; exact fun e => nomatch e)
  have ne95 : ∀ {a : Addr} {o : Option Val}, σ a = some (.cel o) → a ≠ 695 := fun {a o} e z => by
    rcases hT with h | ⟨_, _, h, _⟩ <;> (rw [z, h] at e; cases e)
  -- the loop, once both defs are made
  have fin : ∀ τ ga gb ca cb d1 p1 t1 d2 p2 t2, τ ga = some (.obj (augC B.w crs ci ca d1 p1 t1)) → τ ca = some (codeC augQ) → τ gb = some (.obj (bfsC B.w crp crs cs ct cb d2 p2 t2)) → τ cb = some (codeC bfsQ) →
      τ 695 = some (.obj (tabObj (tab6 ca cb))) → τ ci = some (.cel (some (.int inf))) → σ.But τ [695, ci] →
      Es B φ A ⟨env, [(Str.ofString "s", cs), (Str.ofString "t", ct), (Str.ofString "R_pred", crp), (Str.ofString "R_succ", crs), (Str.ofString "inf", ci)], []⟩
      [(Str.ofString "R", some (.ref G.x)), (Str.ofString "cutoff", some cv), (Str.ofString "R_nodes", some vn), (Str.ofString "augment", some (.ref ga)), (Str.ofString "bidirectional_bfs", some (.ref gb)), (Str.ofString "flow_value", none), (Str.ofString "v", none), (Str.ofString "pred", none), (Str.ofString "succ", none), (Str.ofString "path", none), (Str.ofString "u", none)]
      ((bodyOf B.w 700).drop 6) τ (fun r _ σ' => Q (retOf r) σ') E := by
    intro τ ga gb ca cb d1 p1 t1 d2 p2 t2 h1 h2 h3 h4 h5 h6 b
    have hN := hNk h b
    have k : ∀ {a : Addr} {o : Option Val}, σ a = some (.cel o) → ci ≠ a → τ a = some (.cel o) := fun {a o} e n => b _ _ e fun m => by
      rcases List.mem_cons.mp m with z | m
      · exact ne95 e z
      · exact n (List.mem_singleton.mp m).symm
    have ne : ∀ {a : Addr} {x : Cell}, τ a = some x → (∀ l, x ≠ .dS l) → a ∉ G.edges := fun {a x} e n m => by
      obtain ⟨_, e'⟩ := hN.edge_is m
      rw [e] at e'; cases e'; exact n _ rfl
    have bb : ∀ {σ' : Sig}, τ.But σ' G.edges → σ.But σ' (695 :: ci :: G.edges) := fun b' => (b.trans b').mono fun a ha => by simpa using ha
    refine core_loop (Inv := Inv) (Bad := Bad) (μ := μ) hA hh hE' hcv h1 h2 h3 h4 (k hcs n1) (k hct n2) (k hcrs n3) (k hcrp n4) h6 hN hs ht hst hsym hI hstep ?_ ?_
    · exact fun f m' v s' σ' hB X hN' b' => hE f m' v s' σ' hB X hN' (bb b') (.inr ⟨ca, cb, b' _ _ h5 (ne h5 (by intros; exact fun e => nomatch e)), b' _ _ h2 (ne h2 (by intros; exact fun e => nomatch e)), b' _ _ h4 (ne h4 (by intros; exact fun e => nomatch e))⟩)
    · exact fun f k σ' hI hd hN' b' => q f k σ' hI hd hN' (bb b') (.inr ⟨ca, cb, b' _ _ h5 (ne h5 (by intros; exact fun e => nomatch e)), b' _ _ h2 (ne h2 (by intros; exact fun e => nomatch e)), b' _ _ h4 (ne h4 (by intros; exact fun e => nomatch e))⟩)
  have c95 : 695 ≠ ci := (ne95 hci).symm
  have b0 : σ.But (σ.upd ci (.cel (some (.int inf)))) [695, ci] := Sig.But.upd Sig.But.refl (by simp)
  have q1 : env.qual ++ Str.ofString "augment" = augQ := by rw [hqual]; kernel_rfl
  have q2 : env.qual ++ Str.ofString "bidirectional_bfs" = bfsQ := by rw [hqual]; kernel_rfl
  have i1 : ∀ {τ : Sig}, τ = σ.upd ci (.cel (some (.int inf))) → τ ci = some (.cel (some (.int inf))) := fun e => by rw [e]; exact Sig.upd_self
  generalize hτ : σ.upd ci (.cel (some (.int inf))) = τ at b0
  have hτi := i1 hτ.symm
  rcases hT with hT | ⟨ca, cb, hT, hca, hcb⟩
  · have t0 : τ 695 = some (.obj (tabObj #[])) := by rw [← hτ]; exact (Sig.upd_ne c95).trans hT
    refine Es.cons (Ex.defNew (fr := [(Str.ofString "R_succ", crs), (Str.ofString "inf", ci)]) (by walk_at "mem") hcode q1 (by kernel_rfl) t0 (by exact trivial) (by rfl) (by kernel_rfl) (by intro p hp; simp only [List.mem_cons, List.not_mem_nil, or_false] at hp ⊢; rcases hp with rfl | rfl <;> simp) ?_)
    intro ga ca d1 p1 t1 hga hca nac0
    have nac : ca ≠ ga := nac0.symm
    walk_at "stok"
    refine Seq.next ?_
    have g5 : 695 ≠ ga := Sig.ne t0 hga
    have a5 : 695 ≠ ca := Sig.ne t0 hca
    have gi : ci ≠ ga := Sig.ne hτi hga
    have ai : ci ≠ ca := Sig.ne hτi hca
    have e1 : (Cell.obj (tabObj (#[] ++ #[rawInt 506, rawInt 4, .ref ca]))) = .obj (tabObj (tab3 ca)) := rfl
    generalize hυ : ((τ.upd 695 _).upd ca _).upd ga _ = υ
    have u5 : υ 695 = some (.obj (tabObj (tab3 ca))) := by rw [← hυ]; exact (Sig.upd_ne g5).trans ((Sig.upd_ne a5).trans Sig.upd_self)
    have ua : υ ca = some (codeC augQ) := by rw [← hυ]; exact (Sig.upd_ne nac).trans Sig.upd_self
    have ug : υ ga = some (.obj (augC B.w crs ci ca d1 p1 t1)) := by
      rw [← hυ]; refine Sig.upd_self.trans ?_; kernel_rfl
    have ui : υ ci = some (.cel (some (.int inf))) := by rw [← hυ]; exact (Sig.upd_ne gi).trans ((Sig.upd_ne ai).trans ((Sig.upd_ne c95.symm).trans hτi))
    have bu : σ.But υ [695, ci] := by rw [← hυ]; exact Sig.But.fresh (Sig.But.fresh (Sig.But.upd b0 (by simp)) ((Sig.upd_ne a5.symm).trans hca)) ((Sig.upd_ne nac.symm).trans ((Sig.upd_ne g5.symm).trans hga))
    clear hυ
    refine Es.cons (Ex.defNew (ps := tab3 ca) (fr := [(Str.ofString "R_pred", crp), (Str.ofString "R_succ", crs), (Str.ofString "s", cs), (Str.ofString "t", ct)]) (by walk_at "mem") hcode q2 (by kernel_rfl) u5 (by exact trivial) (by rfl) (by kernel_rfl) (by intro p hp; simp only [List.mem_cons, List.not_mem_nil, or_false] at hp ⊢; rcases hp with rfl | rfl | rfl | rfl <;> simp) ?_)
    intro gb cb d2 p2 t2 hgb hcb nbc0
    have nbc : cb ≠ gb := nbc0.symm
    walk_at "stok"
    refine Seq.next ?_
    have h5 : 695 ≠ gb := Sig.ne u5 hgb
    have k5 : 695 ≠ cb := Sig.ne u5 hcb
    refine fin _ ga gb ca cb d1 p1 t1 d2 p2 t2 ?_ ?_ ?_ ?_ ?_ ?_ ?_
    · exact (Sig.upd_ne (Sig.ne ug hgb)).trans ((Sig.upd_ne (Sig.ne ug hcb)).trans ((Sig.upd_ne g5.symm).trans ug))
    · exact (Sig.upd_ne (Sig.ne ua hgb)).trans ((Sig.upd_ne (Sig.ne ua hcb)).trans ((Sig.upd_ne a5.symm).trans ua))
    · refine Sig.upd_self.trans ?_; kernel_rfl
    · exact (Sig.upd_ne nbc).trans Sig.upd_self
    · exact (Sig.upd_ne h5).trans ((Sig.upd_ne k5).trans Sig.upd_self)
    · exact (Sig.upd_ne (Sig.ne ui hgb)).trans ((Sig.upd_ne (Sig.ne ui hcb)).trans ((Sig.upd_ne c95.symm).trans ui))
    · exact Sig.But.fresh (Sig.But.fresh (Sig.But.upd bu (by simp)) ((Sig.upd_ne k5.symm).trans hcb)) ((Sig.upd_ne nbc.symm).trans ((Sig.upd_ne h5.symm).trans hgb))
  · have t0 : τ 695 = some (.obj (tabObj (tab6 ca cb))) := by rw [← hτ]; exact (Sig.upd_ne c95).trans hT
    have ta : τ ca = some (codeC augQ) := by rw [← hτ]; exact (Sig.upd_ne fun z => by rw [z, hci] at hca; cases hca).trans hca
    have tb : τ cb = some (codeC bfsQ) := by rw [← hτ]; exact (Sig.upd_ne fun z => by rw [z, hci] at hcb; cases hcb).trans hcb
    refine Es.cons (Ex.defHit (c' := ca) (fr := [(Str.ofString "R_succ", crs), (Str.ofString "inf", ci)]) (by walk_at "mem") hcode q1 (by kernel_rfl) t0 (by exact trivial) (by rfl) (by kernel_rfl) (by intro p hp; simp only [List.mem_cons, List.not_mem_nil, or_false] at hp ⊢; rcases hp with rfl | rfl <;> simp) ?_)
    intro ga d1 p1 t1 hga
    walk_at "stok"
    refine Seq.next ?_
    generalize hυ : τ.upd ga _ = υ
    have ug : υ ga = some (.obj (augC B.w crs ci ca d1 p1 t1)) := by
      rw [← hυ]; refine Sig.upd_self.trans ?_; kernel_rfl
    have bu : τ.But υ [] := by rw [← hυ]; exact Sig.But.fresh Sig.But.refl hga
    clear hυ
    refine Es.cons (Ex.defHit (ps := tab6 ca cb) (c' := cb) (fr := [(Str.ofString "R_pred", crp), (Str.ofString "R_succ", crs), (Str.ofString "s", cs), (Str.ofString "t", ct)]) (by walk_at "mem") hcode q2 (by kernel_rfl) (bu _ _ t0 List.not_mem_nil) (by exact trivial) (by rfl) (by kernel_rfl) (by intro p hp; simp only [List.mem_cons, List.not_mem_nil, or_false] at hp ⊢; rcases hp with rfl | rfl | rfl | rfl <;> simp) ?_)
    intro gb d2 p2 t2 hgb
    walk_at "stok"
    refine Seq.next ?_
    have bw : τ.But (υ.upd gb (.obj (bfsC B.w crp crs cs ct cb d2 p2 t2))) [] := Sig.But.fresh bu hgb
    refine fin _ ga gb ca cb d1 p1 t1 d2 p2 t2 ?_ ?_ ?_ ?_ ?_ ?_ ?_
    · exact (Sig.upd_ne (Sig.ne ug hgb)).trans ug
    · exact bw _ _ ta List.not_mem_nil
    · refine Sig.upd_self.trans ?_; kernel_rfl
    · exact bw _ _ tb List.not_mem_nil
    · exact bw _ _ t0 List.not_mem_nil
    · exact bw _ _ hτi List.not_mem_nil
    · exact (b0.trans bw).mono fun a ha => by simpa using ha
end
section
variable {B : Bd} {φ : Phi} {A : Around} {σ : Sig} {E : Value → Shared → Prop}
theorem Cl.defKE {a : Addr} {o : Obj} {fd : FuncData} {body : List Stmt} {vs : List Val} {ps ls : List Str} {gl : List (Str × Value)} {Q : Val → Sig → Prop} {k : Nat}
    (hA : AOk A (k + 1)) (hK : (K0 B.w).lookup a = some o) (hd : o.data = .func fd) (hcode : codeIn (K0 B.w) fd.code fd.qualname = true) (hb : fd.body = .stmts body)
    (hbind : ∀ us, us.length = vs.length → bindArgs fd ⟨us, []⟩ = pure (ps.zip us))
    (hchk : fmChk fd.scope ls (cellNames fd.scope.names) (gl.map (·.1)) = true) (hnd : (cellNames fd.scope.names).Nodup) (hgv : ∀ p ∈ gl, GVal B.w p.1 p.2)
    (h : ∀ env A' E' as, AOk A' k → A' = A.deeper env → E' = ELeave B.w A' env E → PassesOwn (M0 B.w) A' env E' →
      as.length = (cellNames fd.scope.names).length → freshCs as σ → env.code = fd.code → env.qual = fd.qualname ++ ".<locals>." → BindK ((cellNames fd.scope.names).zip as)
        (fun m σ' => Es B φ A' ⟨env, (cellNames fd.scope.names).zip as, gl⟩ m body σ' (fun r _ σ'' => Q (retOf r) σ'') E') (ps.zip vs) (nones ls) (newCs as σ))
    (hcl : fd.closure = [] := by rfl) (hgl : fd.globals = mainGlobals := by rfl) (hbl : fd.builtins = builtinsNs := by rfl)
    (hco : fd.scope.isCoroutine = false := by rfl) (hgen : fd.scope.isGenerator = false := by rfl) (hk : fd.scope.kind = .function := by rfl) :
    Cl B φ A (.ref a) vs [] σ Q E := by
  refine (Cd.defE (k := k) (ls := ls) (gl := gl) hA (fun s S => ⟨S.kin _ _ hK, codeRec_of S.kin hcode⟩) hd hb (by rw [hcl, List.map_nil, List.append_nil]; exact hchk) (by rw [hcl, List.map_nil, List.append_nil]; exact hnd) hgv ?_ hgl hbl hco hgen hk).cl
  intro us ks hu hks s F S
  obtain rfl := no_kw hks
  have hul : us.length = vs.length := by rw [← hu, List.length_map]
  rw [hbind us hul]
  refine wpAny_pure ⟨σ, S, ?_⟩
  intro env A' E' as h1 h2 h3 h4 h5 h6 h7 h8
  have e : ownCs fd.scope.names as fd.closure = (cellNames fd.scope.names).zip as := by unfold ownCs; rw [hcl, List.append_nil]
  rw [e]
  have e2 : (ps.zip us).map (fun p => (p.1, er p.2)) = ps.zip vs := by rw [← hu, List.zip_map_right]; rfl
  rw [e2]
  exact h env A' E' as h1 h2 h3 h4 h5 h6 h7 h8
theorem ClN.defKE {a : Addr} {o : Obj} {fd : FuncData} {body : List Stmt} {vs : List Val} {ps ls : List Str} {gl : List (Str × Value)} {Q : Val → Sig → Prop} {k : Nat}
    (hA : AOk A (k + 1)) (hK : (K0 B.w).lookup a = some o) (hd : o.data = .func fd) (hcode : codeIn (K0 B.w) fd.code fd.qualname = true) (hb : fd.body = .stmts body)
    (hbind : ∀ us, us.length = vs.length → bindArgs fd ⟨us, []⟩ = pure (ps.zip us))
    (hchk : fmChk fd.scope ls (cellNames fd.scope.names) (gl.map (·.1)) = true) (hnd : (cellNames fd.scope.names).Nodup) (hgv : ∀ p ∈ gl, GVal B.w p.1 p.2)
    (h : ∀ env A' E' as, AOk A' k → A' = A.deeper env → E' = ELeave B.w A' env E → PassesOwn (M0 B.w) A' env E' →
      as.length = (cellNames fd.scope.names).length → freshCs as σ → env.code = fd.code → env.qual = fd.qualname ++ ".<locals>." → BindK ((cellNames fd.scope.names).zip as)
        (fun m σ' => EsN B φ A' ⟨env, (cellNames fd.scope.names).zip as, gl⟩ m body σ' (fun r _ σ'' => Q (retOf r) σ'') E') (ps.zip vs) (nones ls) (newCs as σ))
    (hcl : fd.closure = [] := by rfl) (hgl : fd.globals = mainGlobals := by rfl) (hbl : fd.builtins = builtinsNs := by rfl)
    (hco : fd.scope.isCoroutine = false := by rfl) (hgen : fd.scope.isGenerator = false := by rfl) (hk : fd.scope.kind = .function := by rfl) :
    ClN B φ A (.ref a) vs [] σ Q E := by
  refine ClN.defE (k := k) (ls := ls) (gl := gl) hA (fun s S => ⟨S.kin _ _ hK, codeRec_of S.kin hcode⟩) hd hb (by rw [hcl, List.map_nil, List.append_nil]; exact hchk) (by rw [hcl, List.map_nil, List.append_nil]; exact hnd) hgv ?_ hgl hbl hco hgen hk
  intro us ks hu hks s F S
  obtain rfl := no_kw hks
  have hul : us.length = vs.length := by rw [← hu, List.length_map]
  rw [hbind us hul]
  refine wpAny_pure ⟨σ, S, ?_⟩
  intro env A' E' as h1 h2 h3 h4 h5 h6 h7 h8
  have e : ownCs fd.scope.names as fd.closure = (cellNames fd.scope.names).zip as := by unfold ownCs; rw [hcl, List.append_nil]
  rw [e]
  have e2 : (ps.zip us).map (fun p => (p.1, er p.2)) = ps.zip vs := by rw [← hu, List.zip_map_right]; rfl
  rw [e2]
  exact h env A' E' as h1 h2 h3 h4 h5 h6 h7 h8
/-- what core is asked of, beyond the state -/
structure Job (B : Bd) (G : Net) (c : Nat → Nat → Int) (s t : Nat) (inf : Int) (cv : Val) (ltb : Int → Bool) (Inv : (Nat → Nat → Int) → Int → Prop) (Bad : (Nat → Nat → Int) → Prop) (μ : (Nat → Nat → Int) → Int → Nat) : Prop where
  hcv : ∀ (φ : Phi) (A : Around) (σ : Sig) (E : Value → Shared → Prop) (Q : Val → Sig → Prop) (i : Int), Q (.bool (ltb i)) σ → Cm B φ A .Lt (.int i) cv σ Q E
  hs : s < G.n
  ht : t < G.n
  hst : s ≠ t
  hsym : ∀ u v, u < G.n → v < G.n → v ∈ G.S u → u ∈ G.S v
  hstep : ∀ f k p, Inv f k → ltb k = true → Road G c f s t p → (inf < bott c f inf (steps p) * 2 → Bad f) ∧
      (¬ inf < bott c f inf (steps p) * 2 → Inv (augAll (bott c f inf (steps p)) f (steps p)) (k + bott c f inf (steps p)) ∧ μ (augAll (bott c f inf (steps p)) f (steps p)) (k + bott c f inf (steps p)) < μ f k)
/-- the five cells of core at its start -/
theorem five {σ : Sig} {as : List Addr} (hlen : as.length = 5) (hfr : freshCs as σ) : ∃ cs ct crp crs ci, as = [cs, ct, crp, crs, ci] ∧ σ cs = none ∧ σ ct = none ∧ σ crp = none ∧ σ crs = none ∧ σ ci = none ∧
    ct ≠ cs ∧ crp ≠ cs ∧ crp ≠ ct ∧ crs ≠ cs ∧ crs ≠ ct ∧ crs ≠ crp ∧ ci ≠ cs ∧ ci ≠ ct ∧ ci ≠ crp ∧ ci ≠ crs := by
  obtain ⟨cs, r, rfl, hlen2⟩ := cons_of hlen
  obtain ⟨ct, crp, crs, ci, rfl⟩ := hb4 (P := fun as => ∃ a b c d, as = [a, b, c, d]) (fun a b c d => ⟨a, b, c, d, rfl⟩) r hlen2
  obtain ⟨h1, h2, h3, h4, h5, _⟩ := hfr
  obtain ⟨a1, h2⟩ := Sig.upd_none h2
  obtain ⟨b1, h3⟩ := Sig.upd_none h3
  obtain ⟨b2, h3⟩ := Sig.upd_none h3
  obtain ⟨c1, h4⟩ := Sig.upd_none h4
  obtain ⟨c2, h4⟩ := Sig.upd_none h4
  obtain ⟨c3, h4⟩ := Sig.upd_none h4
  obtain ⟨d1, h5⟩ := Sig.upd_none h5
  obtain ⟨d2, h5⟩ := Sig.upd_none h5
  obtain ⟨d3, h5⟩ := Sig.upd_none h5
  obtain ⟨d4, h5⟩ := Sig.upd_none h5
  exact ⟨cs, ct, crp, crs, ci, rfl, h1, h2, h3, h4, h5, a1, b2, b1, c3, c2, c1, d4, d3, d2, d1⟩
theorem core_again {G : Net} {c f₀ : Nat → Nat → Int} {gr : List (Str × Val)} {s t : Nat} {inf : Int} {cv : Val} {ltb : Int → Bool} {Q : Val → Sig → Prop}
    {Inv : (Nat → Nat → Int) → Int → Prop} {Bad : (Nat → Nat → Int) → Prop} {μ : (Nat → Nat → Int) → Int → Nat}
    (hA : AOk A 4) (hh : A.handled = none) (J : Job B G c s t inf cv ltb Inv Bad μ) (h : G.AtC σ c f₀ gr) (hgr : (Str.ofString "inf", Val.int inf) ∈ gr) (hT : CoreTab σ) (hI : Inv f₀ 0)
    (hE : ∀ f v s' σ', Bad f → Exc B φ σ' 68 v s' → G.AtC σ' c f gr → σ.But σ' (695 :: G.edges) → CoreTab σ' → E v s')
    (q : ∀ f k σ', Inv f k → (ltb k = false ∨ Cut G c f s t) → G.AtC σ' c f gr → σ.But σ' (695 :: G.edges) → CoreTab σ' → Q (.int k) σ') :
    Cl B φ A (.ref 700) [.ref G.x, .int (G.nm s), .int (G.nm t), cv] [] σ Q E := by
  refine Cl.withF fun F0 => ?_
  obtain ⟨kvs, hk, hN⟩ := h
  refine Cl.defKE (k := 3) (ls := [Str.ofString "R", Str.ofString "cutoff", Str.ofString "R_nodes", Str.ofString "augment", Str.ofString "bidirectional_bfs", Str.ofString "flow_value", Str.ofString "v", Str.ofString "pred", Str.ofString "succ", Str.ofString "path", Str.ofString "u"]) (gl := [])
    (ps := [Str.ofString "R", Str.ofString "s", Str.ofString "t", Str.ofString "cutoff"]) hA rfl rfl (by kernel_rfl) rfl (hb4 fun _ _ _ _ => rfl) (by kernel_rfl) (by decide) (fun _ h => nomatch h) ?_
  intro env A' E' as hA' eA eE hE' hlen hfr hcode hqual
  obtain ⟨cs, ct, crp, crs, ci, rfl, f1, f2, f3, f4, f5, a1, b1, b2, c1, c2, c3, d1, d2, d3, d4⟩ := five hlen hfr
  have hh' : A'.handled = none := by rw [eA]; exact hh
  refine .inl ⟨_, .head, .inr ⟨cs, none, (by show _ ∈ [(Str.ofString "s", cs), (Str.ofString "t", ct), (Str.ofString "R_pred", crp), (Str.ofString "R_succ", crs), (Str.ofString "inf", ci)]; walk_at "mem"), ?_, .inr ⟨ct, none, (by show _ ∈ [(Str.ofString "s", cs), (Str.ofString "t", ct), (Str.ofString "R_pred", crp), (Str.ofString "R_succ", crs), (Str.ofString "inf", ci)]; walk_at "mem"), ?_, .inl ⟨_, .tail .head, BindK.nil ?_⟩⟩⟩⟩
  · exact (Sig.upd_ne d1.symm).trans ((Sig.upd_ne c1.symm).trans ((Sig.upd_ne b1.symm).trans ((Sig.upd_ne a1.symm).trans Sig.upd_self)))
  · exact (Sig.upd_ne a1).trans ((Sig.upd_ne d2.symm).trans ((Sig.upd_ne c2.symm).trans ((Sig.upd_ne b2.symm).trans Sig.upd_self)))
  have b : σ.But (((newCs [cs, ct, crp, crs, ci] σ).upd cs (.cel (some (.int (G.nm s))))).upd ct (.cel (some (.int (G.nm t))))) [] :=
    Sig.But.new (Sig.But.new (Sig.But.new (Sig.But.new (Sig.But.new (Sig.But.new (Sig.But.new Sig.But.refl f1) f2) f3) f4) f5) f1) f2
  have g1 : (((newCs [cs, ct, crp, crs, ci] σ).upd cs (.cel (some (.int (G.nm s))))).upd ct (.cel (some (.int (G.nm t))))) cs = some (.cel (some (.int (G.nm s)))) := (Sig.upd_ne a1.symm).trans Sig.upd_self
  have g2 : (((newCs [cs, ct, crp, crs, ci] σ).upd cs (.cel (some (.int (G.nm s))))).upd ct (.cel (some (.int (G.nm t))))) ct = some (.cel (some (.int (G.nm t)))) := Sig.upd_self
  have g3 : (((newCs [cs, ct, crp, crs, ci] σ).upd cs (.cel (some (.int (G.nm s))))).upd ct (.cel (some (.int (G.nm t))))) crp = some (.cel none) := (Sig.upd_ne b2).trans ((Sig.upd_ne b1).trans ((Sig.upd_ne d3.symm).trans ((Sig.upd_ne c3.symm).trans Sig.upd_self)))
  have g4 : (((newCs [cs, ct, crp, crs, ci] σ).upd cs (.cel (some (.int (G.nm s))))).upd ct (.cel (some (.int (G.nm t))))) crs = some (.cel none) := (Sig.upd_ne c2).trans ((Sig.upd_ne c1).trans ((Sig.upd_ne d4.symm).trans Sig.upd_self))
  have g5 : (((newCs [cs, ct, crp, crs, ci] σ).upd cs (.cel (some (.int (G.nm s))))).upd ct (.cel (some (.int (G.nm t))))) ci = some (.cel none) := (Sig.upd_ne d2).trans ((Sig.upd_ne d1).trans Sig.upd_self)
  generalize ((newCs [cs, ct, crp, crs, ci] σ).upd cs (.cel (some (.int (G.nm s))))).upd ct (.cel (some (.int (G.nm t)))) = τ at *
  show Es B φ A' ⟨env, [(Str.ofString "s", cs), (Str.ofString "t", ct), (Str.ofString "R_pred", crp), (Str.ofString "R_succ", crs), (Str.ofString "inf", ci)], []⟩
      [(Str.ofString "R", some (.ref G.x)), (Str.ofString "cutoff", some cv), (Str.ofString "R_nodes", none), (Str.ofString "augment", none), (Str.ofString "bidirectional_bfs", none), (Str.ofString "flow_value", none), (Str.ofString "v", none), (Str.ofString "pred", none), (Str.ofString "succ", none), (Str.ofString "path", none), (Str.ofString "u", none)]
      (bodyOf B.w 700) τ (fun r _ σ' => Q (retOf r) σ') E'
  refine Es.withF fun F1 => ?_
  have hN1 := hN.keep0 b
  have m1 : (Str.ofString "nodes", Val.ref G.nd) ∈ gdict G.g G.nd G.sc G.pr ++ kvs := List.mem_append_right _ (by rcases hk with rfl | rfl <;> exact .head _)
  have m2 : (Str.ofString "pred", Val.ref G.pr) ∈ gdict G.g G.nd G.sc G.pr ++ kvs := List.mem_append_right _ (by rcases hk with rfl | rfl <;> exact .tail _ (.head _))
  have m3 : (Str.ofString "succ", Val.ref G.sc) ∈ gdict G.g G.nd G.sc G.pr ++ kvs := List.mem_append_right _ (by rcases hk with rfl | rfl <;> exact .tail _ (.tail _ (.head _)))
  refine Es.cons (Ex.asg (Ev.attr (Ev.loc (by walk_at "mem") (Ga.own hN1.hx hN1.hd m1 at_nodes.plain at_nodes.first ⟨_, rfl⟩ ?_))))
  walk_at "stok"
  refine Seq.next (Es.cons (Ex.asgC' (c := crp) (by walk_at "mem") (Ev.attr (Ev.loc (by walk_at "mem") (Ga.own hN1.hx hN1.hd m2 at_pred.plain at_pred.first ⟨_, rfl⟩ ⟨_, g3, Seq.next ?_⟩)))))
  have b1' : σ.But (τ.upd crp (.cel (some (.ref G.pr)))) [] := Sig.But.new b f3
  have hN2 := hN.keep0 b1'
  refine Es.cons (Ex.asgC' (c := crs) (by walk_at "mem") (Ev.attr (Ev.loc (by walk_at "mem") (Ga.own hN2.hx hN2.hd m3 at_succ.plain at_succ.first ⟨_, rfl⟩ ⟨_, (Sig.upd_ne c3).trans g4, Seq.next ?_⟩))))
  have b2' : σ.But ((τ.upd crp (.cel (some (.ref G.pr)))).upd crs (.cel (some (.ref G.sc)))) [] := Sig.But.new b1' f4
  obtain rfl | rfl := hk
  all_goals
    have fe : ∀ {σ' : Sig}, ((τ.upd crp (.cel (some (.ref G.pr)))).upd crs (.cel (some (.ref G.sc)))).But σ' (695 :: ci :: G.edges) → σ.But σ' (695 :: G.edges) := fun {σ'} b' a x e n => by
      refine b' _ _ (b2' _ _ e List.not_mem_nil) fun m => ?_
      rcases List.mem_cons.mp m with rfl | m
      · exact n (.head _)
      rcases List.mem_cons.mp m with rfl | m
      · rw [f5] at e; cases e
      · exact n (.tail _ m)
    refine core_mid (Inv := Inv) (Bad := Bad) (μ := μ) (t := t) (s := s) hA' hh' hE' hcode (by rw [hqual]; kernel_rfl) J.hcv ((Sig.upd_ne c1.symm).trans ((Sig.upd_ne b1.symm).trans g1)) ((Sig.upd_ne c2.symm).trans ((Sig.upd_ne b2.symm).trans g2)) Sig.upd_self ((Sig.upd_ne c3.symm).trans Sig.upd_self) ((Sig.upd_ne d4).trans ((Sig.upd_ne d3).trans g5)) ⟨d1, d2, d4, d3⟩
      (hN.keep0 b2') hgr (hT.keep b2' List.not_mem_nil (fun _ h => nomatch h)) J.hs J.ht J.hst J.hsym hI J.hstep ?_ ?_
  · intro f m' v s' σ' hB X hN' b' hT'
    rw [eE, eA]
    exact ELeave.exc (f := ⟨env, _, _⟩) F0 (eA ▸ F1) X fun s'' X' => hE f v s'' σ' hB X' ⟨_, .inl rfl, hN'⟩ (fe b') hT'
  · exact fun f k σ' hI hd hN' b' hT' => q f k σ' hI hd ⟨_, .inl rfl, hN'⟩ (fe b') hT'
  · intro f m' v s' σ' hB X hN' b' hT'
    rw [eE, eA]
    exact ELeave.exc (f := ⟨env, _, _⟩) F0 (eA ▸ F1) X fun s'' X' => hE f v s'' σ' hB X' ⟨_, .inr rfl, hN'⟩ (fe b') hT'
  · exact fun f k σ' hI hd hN' b' hT' => q f k σ' hI hd ⟨_, .inr rfl, hN'⟩ (fe b') hT'
end
/-- a cell is turned: the network stands -/
theorem Net.At.cel {G : Net} {σ : Sig} {c f : Nat → Nat → Int} {gr kvs : List (Str × Val)} {out : Bool} (h : G.At σ c f gr kvs out) {a : Addr} {o o' : Option Val} (ha : σ a = some (.cel o)) : G.At (σ.upd a (.cel o')) c f gr kvs out := by
  have n : ∀ {b : Addr} {x : Cell}, σ b = some x → (∀ l, x ≠ .cel l) → a ≠ b := fun {b x} e n z => by rw [← z, ha] at e; cases e; exact n _ rfl
  refine h.keep (l := [a]) (Sig.But.upd Sig.But.refl (by simp)) fun b hb => ?_
  rw [List.mem_singleton.mp hb]
  refine ⟨n h.hx (by intros; exact fun e => nomatch e), n h.hd (by intros; exact fun e => nomatch e), n h.hg (by intros; exact fun e => nomatch e), ?_, ?_, ?_, fun i hi => ⟨?_, ?_⟩, fun i j hi hj => n (h.hea i j hi hj) (by intros; exact fun e => nomatch e)⟩
  · obtain ⟨_, q⟩ := h.hnd; exact n q (by intros; exact fun e => nomatch e)
  · obtain ⟨_, q⟩ := h.hsc; exact n q (by intros; exact fun e => nomatch e)
  · obtain ⟨_, q⟩ := h.hpr; exact n q (by intros; exact fun e => nomatch e)
  · obtain ⟨_, q⟩ := h.hsa i hi; exact n q (by intros; exact fun e => nomatch e)
  · obtain ⟨_, q⟩ := h.hpa i hi; exact n q (by intros; exact fun e => nomatch e)
section
variable {B : Bd} {φ : Phi} {A : Around} {σ : Sig} {E : Value → Shared → Prop}
theorem core_first {G : Net} {c f₀ : Nat → Nat → Int} {gr : List (Str × Val)} {s t : Nat} {inf : Int} {cv : Val} {ltb : Int → Bool} {Q : Val → Sig → Prop}
    {Inv : (Nat → Nat → Int) → Int → Prop} {Bad : (Nat → Nat → Int) → Prop} {μ : (Nat → Nat → Int) → Int → Nat}
    (hA : AOk A 5) (hh : A.handled = none) (J : Job B G c s t inf cv ltb Inv Bad μ) (hN : G.At σ c f₀ gr [] false) (hgr : (Str.ofString "inf", Val.int inf) ∈ gr) (hT : CoreTab σ) (hI : Inv f₀ 0)
    (hE : ∀ f v s' σ', Bad f → Exc B φ σ' 68 v s' → G.AtC σ' c f gr → σ.But σ' (G.d :: 695 :: G.edges) → CoreTab σ' → E v s')
    (q : ∀ f k σ', Inv f k → (ltb k = false ∨ Cut G c f s t) → G.AtC σ' c f gr → σ.But σ' (G.d :: 695 :: G.edges) → CoreTab σ' → Q (.int k) σ') :
    ClN B φ A (.ref 700) [.ref G.x, .int (G.nm s), .int (G.nm t), cv] [] σ Q E := by
  refine ClN.withF fun F0 => ?_
  refine ClN.defKE (k := 4) (ls := [Str.ofString "R", Str.ofString "cutoff", Str.ofString "R_nodes", Str.ofString "augment", Str.ofString "bidirectional_bfs", Str.ofString "flow_value", Str.ofString "v", Str.ofString "pred", Str.ofString "succ", Str.ofString "path", Str.ofString "u"]) (gl := [])
    (ps := [Str.ofString "R", Str.ofString "s", Str.ofString "t", Str.ofString "cutoff"]) hA rfl rfl (by kernel_rfl) rfl (hb4 fun _ _ _ _ => rfl) (by kernel_rfl) (by decide) (fun _ h => nomatch h) ?_
  intro env A' E' as hA' eA eE hE' hlen hfr hcode hqual
  obtain ⟨cs, ct, crp, crs, ci, rfl, f1, f2, f3, f4, f5, a1, b1, b2, c1, c2, c3, d1, d2, d3, d4⟩ := five hlen hfr
  have hh' : A'.handled = none := by rw [eA]; exact hh
  refine .inl ⟨_, .head, .inr ⟨cs, none, (by show _ ∈ [(Str.ofString "s", cs), (Str.ofString "t", ct), (Str.ofString "R_pred", crp), (Str.ofString "R_succ", crs), (Str.ofString "inf", ci)]; walk_at "mem"), ?_, .inr ⟨ct, none, (by show _ ∈ [(Str.ofString "s", cs), (Str.ofString "t", ct), (Str.ofString "R_pred", crp), (Str.ofString "R_succ", crs), (Str.ofString "inf", ci)]; walk_at "mem"), ?_, .inl ⟨_, .tail .head, BindK.nil ?_⟩⟩⟩⟩
  · exact (Sig.upd_ne d1.symm).trans ((Sig.upd_ne c1.symm).trans ((Sig.upd_ne b1.symm).trans ((Sig.upd_ne a1.symm).trans Sig.upd_self)))
  · exact (Sig.upd_ne a1).trans ((Sig.upd_ne d2.symm).trans ((Sig.upd_ne c2.symm).trans ((Sig.upd_ne b2.symm).trans Sig.upd_self)))
  have b : σ.But (((newCs [cs, ct, crp, crs, ci] σ).upd cs (.cel (some (.int (G.nm s))))).upd ct (.cel (some (.int (G.nm t))))) [] :=
    Sig.But.new (Sig.But.new (Sig.But.new (Sig.But.new (Sig.But.new (Sig.But.new (Sig.But.new Sig.But.refl f1) f2) f3) f4) f5) f1) f2
  have g1 : (((newCs [cs, ct, crp, crs, ci] σ).upd cs (.cel (some (.int (G.nm s))))).upd ct (.cel (some (.int (G.nm t))))) cs = some (.cel (some (.int (G.nm s)))) := (Sig.upd_ne a1.symm).trans Sig.upd_self
  have g2 : (((newCs [cs, ct, crp, crs, ci] σ).upd cs (.cel (some (.int (G.nm s))))).upd ct (.cel (some (.int (G.nm t))))) ct = some (.cel (some (.int (G.nm t)))) := Sig.upd_self
  have g3 : (((newCs [cs, ct, crp, crs, ci] σ).upd cs (.cel (some (.int (G.nm s))))).upd ct (.cel (some (.int (G.nm t))))) crp = some (.cel none) := (Sig.upd_ne b2).trans ((Sig.upd_ne b1).trans ((Sig.upd_ne d3.symm).trans ((Sig.upd_ne c3.symm).trans Sig.upd_self)))
  have g4 : (((newCs [cs, ct, crp, crs, ci] σ).upd cs (.cel (some (.int (G.nm s))))).upd ct (.cel (some (.int (G.nm t))))) crs = some (.cel none) := (Sig.upd_ne c2).trans ((Sig.upd_ne c1).trans ((Sig.upd_ne d4.symm).trans Sig.upd_self))
  have g5 : (((newCs [cs, ct, crp, crs, ci] σ).upd cs (.cel (some (.int (G.nm s))))).upd ct (.cel (some (.int (G.nm t))))) ci = some (.cel none) := (Sig.upd_ne d2).trans ((Sig.upd_ne d1).trans Sig.upd_self)
  generalize ((newCs [cs, ct, crp, crs, ci] σ).upd cs (.cel (some (.int (G.nm s))))).upd ct (.cel (some (.int (G.nm t)))) = τ at *
  show EsN B φ A' ⟨env, [(Str.ofString "s", cs), (Str.ofString "t", ct), (Str.ofString "R_pred", crp), (Str.ofString "R_succ", crs), (Str.ofString "inf", ci)], []⟩
      [(Str.ofString "R", some (.ref G.x)), (Str.ofString "cutoff", some cv), (Str.ofString "R_nodes", none), (Str.ofString "augment", none), (Str.ofString "bidirectional_bfs", none), (Str.ofString "flow_value", none), (Str.ofString "v", none), (Str.ofString "pred", none), (Str.ofString "succ", none), (Str.ofString "path", none), (Str.ofString "u", none)]
      (bodyOf B.w 700) τ (fun r _ σ' => Q (retOf r) σ') E'
  refine EsN.withF fun F1 => ?_
  have dne : ∀ {a : Addr} {x : Cell}, τ a = some x → (∀ l o, x ≠ .dD l o) → a ≠ G.d := fun {a x} e n z => by
    rw [z, b _ _ hN.hd List.not_mem_nil] at e; cases e; exact n _ _ rfl
  have dnf : ∀ {a : Addr}, σ a = none → a ≠ G.d := fun e z => by rw [z, hN.hd] at e; cases e
  have hN1 := hN.keep0 b
  refine EsN.cons (ExN.asg (EvN.attr (Ev.loc (by walk_at "mem") (GaN.cached cached_nodes at_nodes hA' hN1.hx hN1.hd gd_node (by unfold gdict; walk_at "nokeys") (by unfold gdict; simp) ?_))))
  have hN2 := hN1.cache (kvs' := [(Str.ofString "nodes", .ref G.nd)]) (out' := true)
  have b3 : σ.But (τ.upd G.d (.dD (gdict G.g G.nd G.sc G.pr ++ [(Str.ofString "nodes", .ref G.nd)]) true)) [G.d] := (b.trans (Sig.But.upd (l := [G.d]) Sig.But.refl (by simp))).mono fun a ha => by simpa using ha
  have g1 := (Sig.upd_ne (c := .dD (gdict G.g G.nd G.sc G.pr ++ [(Str.ofString "nodes", .ref G.nd)]) true) (dnf f1)).trans g1
  have g2 := (Sig.upd_ne (c := .dD (gdict G.g G.nd G.sc G.pr ++ [(Str.ofString "nodes", .ref G.nd)]) true) (dnf f2)).trans g2
  have g3 := (Sig.upd_ne (c := .dD (gdict G.g G.nd G.sc G.pr ++ [(Str.ofString "nodes", .ref G.nd)]) true) (dnf f3)).trans g3
  have g4 := (Sig.upd_ne (c := .dD (gdict G.g G.nd G.sc G.pr ++ [(Str.ofString "nodes", .ref G.nd)]) true) (dnf f4)).trans g4
  have g5 := (Sig.upd_ne (c := .dD (gdict G.g G.nd G.sc G.pr ++ [(Str.ofString "nodes", .ref G.nd)]) true) (dnf f5)).trans g5
  rw [List.append_nil]
  walk_at "stok"
  refine SeqN.next (EsN.of ?_)
  generalize τ.upd G.d (.dD (gdict G.g G.nd G.sc G.pr ++ [(Str.ofString "nodes", .ref G.nd)]) true) = τ₂ at *
  refine Es.cons (Ex.asgC' (c := crp) (by walk_at "mem") (Ev.attr (Ev.loc (by walk_at "mem") (Ga.cached cached_pred at_pred hA' hN2.hx hN2.hd gd_pred (by unfold gdict; walk_at "nokeys") (by unfold gdict; simp) ?_))))
  rw [List.append_assoc]
  have hN3 := hN2.cache (kvs' := [(Str.ofString "nodes", .ref G.nd)] ++ [(Str.ofString "pred", .ref G.pr)]) (out' := true)
  have b4 : σ.But (τ₂.upd G.d (.dD (gdict G.g G.nd G.sc G.pr ++ ([(Str.ofString "nodes", .ref G.nd)] ++ [(Str.ofString "pred", .ref G.pr)])) true)) [G.d] := b3.upd (by simp)
  have g1 := (Sig.upd_ne (c := .dD (gdict G.g G.nd G.sc G.pr ++ ([(Str.ofString "nodes", .ref G.nd)] ++ [(Str.ofString "pred", .ref G.pr)])) true) (dnf f1)).trans g1
  have g2 := (Sig.upd_ne (c := .dD (gdict G.g G.nd G.sc G.pr ++ ([(Str.ofString "nodes", .ref G.nd)] ++ [(Str.ofString "pred", .ref G.pr)])) true) (dnf f2)).trans g2
  have g3 := (Sig.upd_ne (c := .dD (gdict G.g G.nd G.sc G.pr ++ ([(Str.ofString "nodes", .ref G.nd)] ++ [(Str.ofString "pred", .ref G.pr)])) true) (dnf f3)).trans g3
  have g4 := (Sig.upd_ne (c := .dD (gdict G.g G.nd G.sc G.pr ++ ([(Str.ofString "nodes", .ref G.nd)] ++ [(Str.ofString "pred", .ref G.pr)])) true) (dnf f4)).trans g4
  have g5 := (Sig.upd_ne (c := .dD (gdict G.g G.nd G.sc G.pr ++ ([(Str.ofString "nodes", .ref G.nd)] ++ [(Str.ofString "pred", .ref G.pr)])) true) (dnf f5)).trans g5
  generalize τ₂.upd G.d (.dD (gdict G.g G.nd G.sc G.pr ++ ([(Str.ofString "nodes", .ref G.nd)] ++ [(Str.ofString "pred", .ref G.pr)])) true) = τ₃ at *
  refine ⟨_, g3, Seq.next ?_⟩
  have b1' : σ.But (τ₃.upd crp (.cel (some (.ref G.pr)))) [G.d] := Sig.But.new b4 f3
  have hN4 : G.At (τ₃.upd crp (.cel (some (.ref G.pr)))) c f₀ gr ([(Str.ofString "nodes", .ref G.nd)] ++ [(Str.ofString "pred", .ref G.pr)]) true := hN3.cel g3
  refine Es.cons (Ex.asgC' (c := crs) (by walk_at "mem") (Ev.attr (Ev.loc (by walk_at "mem") (Ga.cached cached_succ at_succ hA' hN4.hx hN4.hd gd_succ (by unfold gdict; walk_at "nokeys") (by unfold gdict; simp) ?_))))
  rw [List.append_assoc]
  have hN5 : G.At ((τ₃.upd crp (.cel (some (.ref G.pr)))).upd G.d (.dD (gdict G.g G.nd G.sc G.pr ++ ([(Str.ofString "nodes", .ref G.nd)] ++ [(Str.ofString "pred", .ref G.pr)] ++ [(Str.ofString "succ", .ref G.sc)])) true)) c f₀ gr G.k3 true := hN4.cache (kvs' := G.k3) (out' := true)
  have b5 : σ.But ((τ₃.upd crp (.cel (some (.ref G.pr)))).upd G.d (.dD (gdict G.g G.nd G.sc G.pr ++ ([(Str.ofString "nodes", .ref G.nd)] ++ [(Str.ofString "pred", .ref G.pr)] ++ [(Str.ofString "succ", .ref G.sc)])) true)) [G.d] := b1'.upd (by simp)
  have g1 := (Sig.upd_ne (c := .dD (gdict G.g G.nd G.sc G.pr ++ ([(Str.ofString "nodes", .ref G.nd)] ++ [(Str.ofString "pred", .ref G.pr)] ++ [(Str.ofString "succ", .ref G.sc)])) true) (dnf f1)).trans ((Sig.upd_ne (c := .cel (some (.ref G.pr))) b1.symm).trans g1)
  have g2 := (Sig.upd_ne (c := .dD (gdict G.g G.nd G.sc G.pr ++ ([(Str.ofString "nodes", .ref G.nd)] ++ [(Str.ofString "pred", .ref G.pr)] ++ [(Str.ofString "succ", .ref G.sc)])) true) (dnf f2)).trans ((Sig.upd_ne (c := .cel (some (.ref G.pr))) b2.symm).trans g2)
  have g3' : (τ₃.upd crp (.cel (some (.ref G.pr)))) crp = some (.cel (some (.ref G.pr))) := Sig.upd_self
  have g3 := (Sig.upd_ne (c := .dD (gdict G.g G.nd G.sc G.pr ++ ([(Str.ofString "nodes", .ref G.nd)] ++ [(Str.ofString "pred", .ref G.pr)] ++ [(Str.ofString "succ", .ref G.sc)])) true) (dnf f3)).trans g3'
  have g4 := (Sig.upd_ne (c := .dD (gdict G.g G.nd G.sc G.pr ++ ([(Str.ofString "nodes", .ref G.nd)] ++ [(Str.ofString "pred", .ref G.pr)] ++ [(Str.ofString "succ", .ref G.sc)])) true) (dnf f4)).trans ((Sig.upd_ne (c := .cel (some (.ref G.pr))) c3).trans g4)
  have g5 := (Sig.upd_ne (c := .dD (gdict G.g G.nd G.sc G.pr ++ ([(Str.ofString "nodes", .ref G.nd)] ++ [(Str.ofString "pred", .ref G.pr)] ++ [(Str.ofString "succ", .ref G.sc)])) true) (dnf f5)).trans ((Sig.upd_ne (c := .cel (some (.ref G.pr))) d3).trans g5)
  generalize (τ₃.upd crp (.cel (some (.ref G.pr)))).upd G.d (.dD (gdict G.g G.nd G.sc G.pr ++ ([(Str.ofString "nodes", .ref G.nd)] ++ [(Str.ofString "pred", .ref G.pr)] ++ [(Str.ofString "succ", .ref G.sc)])) true) = τ₄ at *
  refine ⟨_, g4, Seq.next ?_⟩
  have b2' : σ.But (τ₄.upd crs (.cel (some (.ref G.sc)))) [G.d] := Sig.But.new b5 f4
  have fe : ∀ {σ' : Sig}, (τ₄.upd crs (.cel (some (.ref G.sc)))).But σ' (695 :: ci :: G.edges) → σ.But σ' (G.d :: 695 :: G.edges) := fun {σ'} b' a x e n => by
    refine b' _ _ (b2' _ _ e fun m => ?_) fun m => ?_
    · rw [List.mem_singleton.mp m] at n; exact n (.head _)
    rcases List.mem_cons.mp m with rfl | m
    · exact n (.tail _ (.head _))
    rcases List.mem_cons.mp m with rfl | m
    · rw [f5] at e; cases e
    · exact n (.tail _ (.tail _ m))
  have d95 : 695 ≠ G.d := fun z => by rcases hT with h | ⟨_, _, h, _⟩ <;> (rw [z, hN.hd] at h; cases h)
  refine core_mid (Inv := Inv) (Bad := Bad) (μ := μ) (t := t) (s := s) (hA'.le (by decide)) hh' hE' hcode (by rw [hqual]; kernel_rfl) J.hcv ((Sig.upd_ne c1.symm).trans g1) ((Sig.upd_ne c2.symm).trans g2) Sig.upd_self ((Sig.upd_ne c3.symm).trans g3) ((Sig.upd_ne d4).trans g5) ⟨d1, d2, d4, d3⟩
      (hN5.cel g4) hgr (hT.keep b2' (fun m => d95 (List.mem_singleton.mp m)) (fun a m x e => by rw [List.mem_singleton.mp m, hN.hd] at e; cases e)) J.hs J.ht J.hst J.hsym hI J.hstep ?_ ?_
  · intro f m' v s' σ' hB X hN' b' hT'
    rw [eE, eA]
    exact ELeave.exc (f := ⟨env, _, _⟩) F0 (eA ▸ F1) X fun s'' X' => hE f v s'' σ' hB X' ⟨_, .inl rfl, hN'⟩ (fe b') hT'
  · exact fun f k σ' hI hd hN' b' hT' => q f k σ' hI hd ⟨_, .inl rfl, hN'⟩ (fe b') hT'
end
theorem er_exc {w : World} : excIn (K0 w) 44 [.type "Exception", .type "BaseException", .type "object"] "Exception.__new__" = true := by kernel_rfl
theorem er_ns {w : World} : nsIn (K0 w) mainGlobals (Str.ofString "NetworkXError") = some (some (.ref 44)) := by kernel_rfl
theorem inf_gt (n : Int) : (PySem.Float64.cmpInt ((Num.parseText? (Str.ofString "inf")).getD 0) n == some Ordering.gt) = true := by
  have h : PySem.Float64.decode ((Num.parseText? (Str.ofString "inf")).getD 0) = .inf false := by kernel_rfl
  unfold PySem.Float64.cmpInt
  rw [h]; rfl
section
variable {B : Bd} {φ : Phi} {A : Around} {f : Fm} {m : LM} {σ : Sig} {E : Value → Shared → Prop}
/-- the float that is above all ints -/
noncomputable def fInf : UInt64 := (Num.parseText? (Str.ofString "inf")).getD 0
theorem Cm.ltInf {i : Int} {Q : Val → Sig → Prop} (q : Q (.bool true) σ) : Cm B φ A .Lt (.int i) (.flt fInf) σ Q E := fun u v hu hv s F S => by
  obtain ⟨t, rfl⟩ := er_int hu; obtain ⟨t', rfl⟩ := er_flt hv
  refine PyProof.Rows.lt_if ⟨σ, S, ?_⟩
  show Q (.bool _) σ
  rw [show (PySem.Float64.cmpInt fInf i == some Ordering.gt) = true from inf_gt i]; exact q
theorem Cl.floatInf {Q : Val → Sig → Prop} (hh : A.handled = none) (q : Q (.flt fInf) σ) : Cl B φ A (.type "float") [.str (Str.ofString "inf")] [] σ Q E := fun us ks hu hk s F S => by
  obtain ⟨a, rfl, ha⟩ := one_arg hu; rw [no_kw hk]
  obtain ⟨t, rfl⟩ := er_str ha
  have h1 : (Num.parseText? (Str.ofString "inf")).isSome = true := by decide +kernel
  exact PySem.Flt.call_float_str hh (by decide +kernel) (fun h => by rw [h1] at h; cases h) fun _ => ⟨σ, S.toks _, q⟩
theorem Cl.strInt {i : Int} {Q : Val → Sig → Prop} (hi : i.natAbs ≤ 1000) (q : ∀ x : Str, x.length ≤ 2000 → Q (.str x) σ) : Cl B φ A (.type "str") [.int i] [] σ Q E := fun us ks hu hk s F S => by
  obtain ⟨a, rfl, ha⟩ := one_arg hu; rw [no_kw hk]
  obtain ⟨t, rfl⟩ := er_int ha
  have hd : i.natAbs.log2 < 1920 := by
    have h2 : i.natAbs.log2 ≤ i.natAbs := Nat.log2_le_self _
    omega
  refine PySem.P.str_of_int hd ⟨σ, S.toks _, q _ ?_⟩
  have := len_str_of_int i
  show (Str.ofString (toString i)).length ≤ 2000
  omega
theorem Ev.fmt {value : Expr} {pos : Pos} {Q : Val → Sig → Prop} (h : Ev B φ A f m value σ (fun v σ₁ => ∃ x, v = .str x ∧ x.length ≤ 2000 ∧ Q (.str x) σ₁) E) : Ev B φ A f m (.FormattedValue value (-1) Option.none pos) σ Q E := fun s F S => by
  refine PyProof.Rows.FormattedValue_plain (wpAny_mono (h s F S) (fun v s₁ ⟨σ₁, S₁, x, e, hx, q⟩ => ?_) fun _ _ e => e)
  obtain ⟨t, rfl⟩ := er_str e
  exact PyProof.Rows.formatField_str (fun t' tk => ⟨σ₁, S₁.toks tk, q⟩) (by rw [sizeLine_eq]; omega)
/-- f'..{..}..' -/
theorem Ev.fstr3 {e₁ e₂ e₃ : Expr} {pos : Pos} {Q : Val → Sig → Prop}
    (h : Ev B φ A f m e₁ σ (fun a σ₁ => ∃ x, a = .str x ∧ x.length ≤ 2000 ∧ Ev B φ A f m e₂ σ₁ (fun b σ₂ => ∃ y, b = .str y ∧ y.length ≤ 2000 ∧ Ev B φ A f m e₃ σ₂ (fun c σ₃ => ∃ z, c = .str z ∧ z.length ≤ 2000 ∧ ∀ u, Q (.str u) σ₃) E) E) E)
    (he : evalEach [e₁, e₂, e₃] f.env = [eval e₁ f.env, eval e₂ f.env, eval e₃ f.env] := by rfl) : Ev B φ A f m (.JoinedStr [e₁, e₂, e₃] pos) σ Q E := fun s F S => by
  refine wpAny_JoinedStr ?_
  rw [he]
  refine wpAny_mono (h s F S) (fun v s₁ ⟨σ₁, S₁, x, e, hx, h₁⟩ => ?_) fun _ _ e => e
  obtain ⟨t, rfl⟩ := er_str e
  have z0 : Str.empty.length = 0 := rfl
  refine ⟨x, t, rfl, by rw [strLen_append, sizeLine_eq]; omega, wpAny_mono (h₁ s₁ F S₁) (fun v s₂ ⟨σ₂, S₂, y, e, hy, h₂⟩ => ?_) fun _ _ e => e⟩
  obtain ⟨t, rfl⟩ := er_str e
  refine ⟨y, t, rfl, by rw [strLen_append, strLen_append, sizeLine_eq]; omega, wpAny_mono (h₂ s₂ F S₂) (fun v s₃ ⟨σ₃, S₃, z, e, hz, h₃⟩ => ?_) fun _ _ e => e⟩
  obtain ⟨t, rfl⟩ := er_str e
  have hl : (Str.empty ++ x ++ y ++ z).length ≤ sizeLine := by rw [strLen_append, strLen_append, strLen_append, sizeLine_eq]; omega
  exact ⟨z, t, rfl, hl, hl, σ₃, S₃.toks _, h₃ _⟩
end
section
variable {B : Bd} {φ : Phi} {A : Around} {σ : Sig} {E : Value → Shared → Prop}
theorem impl_refuses {x d g nd sc pr : Addr} {kvs : List (Str × Val)} {out : Bool} {tab : List (Int × Val)} {ep : Nat} {s t : Int} {cap : Str} {r : Val} {Q : Val → Sig → Prop} (hA : AOk A 3) (hh : A.handled = none)
    (hx : σ x = some (.inst 676 d)) (hd : σ d = some (.dD (gdict g nd sc pr ++ kvs) out)) (hn : σ nd = some (.dI tab ep)) (hs : s.natAbs ≤ 1000) (ht : t.natAbs ≤ 1000) (bad : s ∉ tab.map (·.1) ∨ t ∉ tab.map (·.1) ∨ s = t)
    (hE : ∀ v s', Exc B φ σ 44 v s' → E v s') : Cl B φ A (.ref 707) [.ref x, .int s, .int t, .str cap, r, .none] [] σ Q E := by
  refine Cl.withF fun F0 => ?_
  refine Cl.def0 (k := 2) (gl := [(Str.ofString "NetworkXError", .ref 44), (Str.ofString "str", .type "str")]) (ps := [Str.ofString "G", Str.ofString "s", Str.ofString "t", Str.ofString "capacity", Str.ofString "residual", Str.ofString "cutoff"]) (rest := [Str.ofString "R", Str.ofString "nbrs", Str.ofString "e"]) hA rfl rfl (by kernel_rfl) rfl (hb6 fun _ _ _ _ _ _ => rfl) rfl (by kernel_rfl)
    (by intro p hp; simp only [List.mem_cons, List.not_mem_nil, or_false] at hp; rcases hp with rfl | rfl <;> walk_at "gv") ?_
  intro env A' E' hL hA' eA eE hE'
  have hh' : A'.handled = none := by rw [eA]; exact hh
  show Es B φ A' ⟨env, [], _⟩ [(Str.ofString "G", some (.ref x)), (Str.ofString "s", some (.int s)), (Str.ofString "t", some (.int t)), (Str.ofString "capacity", some (.str cap)), (Str.ofString "residual", some r), (Str.ofString "cutoff", some .none), (Str.ofString "R", none), (Str.ofString "nbrs", none), (Str.ofString "e", none)] (bodyOf B.w 707) σ _ E'
  refine Es.withF fun F1 => ?_
  have out : ∀ m' v s', Exc B ((env.locals, .fr ⟨env, [], [(Str.ofString "NetworkXError", .ref 44), (Str.ofString "str", .type "str")]⟩ m') :: φ) σ 44 v s' → E' v s' := fun m' v s' X => by
    rw [eE, eA]
    exact ELeave.exc (f := ⟨env, _, _⟩) F0 (eA ▸ F1) X fun s'' X' => hE v s'' X'
  refine Es.cons (Ex.ifs (Bt.cmp (Ev.loc (by walk_at "mem") (Ev.loc (by walk_at "mem") (Cm.notInInst hA' hx hd gd_node hn (Tr.bool ⟨fun h1 => ?_, fun h1 => ?_⟩))))))
  · exact Es.cons (Ex.raiseOwn hh' (by walk_at "mem") er_ns er_exc PySem.F.excBase_Exception (El.cons (Ev.fstr3 (Ev.str ⟨_, rfl, by decide, Ev.fmt (Ev.callG (by walk_at "mem") (El.cons (Ev.loc (by walk_at "mem") (El.nil (Ek.nil ⟨Kp.ty, Cl.strInt hs fun y hy => ⟨y, rfl, hy, y, rfl, hy, Ev.str ⟨_, rfl, by decide, fun u => El.nil ⟨by simp, out _⟩⟩⟩⟩)))))⟩))))
  refine Es.nil (Seq.next (Es.cons (Ex.ifs (Bt.cmp (Ev.loc (by walk_at "mem") (Ev.loc (by walk_at "mem") (Cm.notInInst hA' hx hd gd_node hn (Tr.bool ⟨fun h2 => ?_, fun h2 => ?_⟩))))))))
  · exact Es.cons (Ex.raiseOwn hh' (by walk_at "mem") er_ns er_exc PySem.F.excBase_Exception (El.cons (Ev.fstr3 (Ev.str ⟨_, rfl, by decide, Ev.fmt (Ev.callG (by walk_at "mem") (El.cons (Ev.loc (by walk_at "mem") (El.nil (Ek.nil ⟨Kp.ty, Cl.strInt ht fun y hy => ⟨y, rfl, hy, y, rfl, hy, Ev.str ⟨_, rfl, by decide, fun u => El.nil ⟨by simp, out _⟩⟩⟩⟩)))))⟩))))
  have e : s = t := by
    rcases bad with h | h | h
    · rw [decide_eq_false h] at h1; cases h1
    · rw [decide_eq_false h] at h2; cases h2
    · exact h
  refine Es.nil (Seq.next (Es.cons (Ex.ifs (Bt.cmp (Ev.loc (by walk_at "mem") (Ev.loc (by walk_at "mem") (Cm.eq ?_)))))))
  rw [decide_eq_true e]
  exact Tr.bool (tT (Es.cons (Ex.raiseOwn hh' (by walk_at "mem") er_ns er_exc PySem.F.excBase_Exception (El.cons (Ev.str (El.nil ⟨by simp, out _⟩))))))
end
section
variable {B : Bd} {φ : Phi} {A : Around} {σ : Sig} {E : Value → Shared → Prop}
theorem FrOk.framesOf {A : Around} {φ : Phi} {env : Env} (F0 : FrOk A φ) : ∃ outer, (A.deeper env).frames = some (env :: outer) := by
  obtain ⟨_, l, hl, _⟩ := F0
  exact ⟨l, by show A.frames.map (env :: ·) = _; rw [hl]; rfl⟩
theorem refused_spec {x d g nd sc pr : Addr} {kvs : List (Str × Val)} {out : Bool} {tab : List (Int × Val)} {ep : Nat} {s t : Int} {r : Val} {Q : Val → Sig → Prop} (hA : AOk A 4) (hh : A.handled = none)
    (hx : σ x = some (.inst 676 d)) (hd : σ d = some (.dD (gdict g nd sc pr ++ kvs) out)) (hn : σ nd = some (.dI tab ep)) (hs : s.natAbs ≤ 1000) (ht : t.natAbs ≤ 1000) (bad : s ∉ tab.map (·.1) ∨ t ∉ tab.map (·.1) ∨ s = t)
    (q : Q (.bool true) σ) : Cl B φ A (.ref 753) [.ref x, .int s, .int t, r] [] σ Q E := by
  refine Cl.withF fun F0 => ?_
  refine Cl.def0 (k := 3) (gl := [(Str.ofString "edmonds_karp_impl", .ref 707), (Str.ofString "NetworkXError", .ref 44)]) (ps := [Str.ofString "G", Str.ofString "a", Str.ofString "b", Str.ofString "R"]) (rest := []) hA rfl rfl (by kernel_rfl) rfl (hb4 fun _ _ _ _ => rfl) rfl (by kernel_rfl)
    (by walk_at "gl") ?_
  intro env A' E' hL hA' eA eE hE'
  have hh' : A'.handled = none := by rw [eA]; exact hh
  show Es B φ A' ⟨env, [], _⟩ [(Str.ofString "G", some (.ref x)), (Str.ofString "a", some (.int s)), (Str.ofString "b", some (.int t)), (Str.ofString "R", some r)] (bodyOf B.w 753) σ _ E'
  refine Es.cons (Ex.tryExc (H := fun _ τ => τ = σ) (by walk_at "mem") er_ns er_exc (by decide) (by rw [eA]; exact F0.framesOf) ?_ ?_)
  · refine Es.cons (Ex.expr (Ev.callG (by walk_at "mem") (El.cons (Ev.loc (by walk_at "mem") (El.cons (Ev.loc (by walk_at "mem") (El.cons (Ev.loc (by walk_at "mem") (El.cons (Ev.str (El.cons (Ev.loc (by walk_at "mem") (El.cons (Ev.none (El.nil (Ek.nil ⟨Kp.kin (by kernel_rfl), impl_refuses hA' hh' hx hd hn hs ht bad fun v s' X => ⟨_, _, X, rfl⟩⟩))))))))))))))))
  · rintro m' _ e P hP rfl
    exact Es.cons (Ex.ret (Ev.bool q))
end
theorem Net.At.congr {G : Net} {σ : Sig} {c f f' : Nat → Nat → Int} {gr kvs : List (Str × Val)} {out : Bool} (h : G.At σ c f gr kvs out) (e : ∀ i j, i < G.n → j ∈ G.S i → f i j = f' i j) : G.At σ c f' gr kvs out :=
  ⟨h.ok, h.hx, h.hd, h.hg, h.hnd, h.hsc, h.hpr, h.hsa, h.hpa, fun i j hi hj => by rw [← e i j hi hj]; exact h.hea i j hi hj⟩
/-- the graph's own dict is written -/
theorem Net.At.graph {G : Net} {σ : Sig} {c f : Nat → Nat → Int} {gr gr' kvs : List (Str × Val)} {out : Bool} (h : G.At σ c f gr kvs out) : G.At (σ.upd G.g (.dS gr')) c f gr' kvs out := by
  have k : ∀ {a : Addr} {x : Cell}, σ a = some x → (∀ l, x ≠ .dS l) → (σ.upd G.g (.dS gr')) a = some x := fun {a x} e n => (Sig.upd_ne fun z => by rw [z, h.hg] at e; cases e; exact n _ rfl).trans e
  exact ⟨h.ok, k h.hx (by intros; exact fun e => nomatch e), k h.hd (by intros; exact fun e => nomatch e), Sig.upd_self, let ⟨e, q⟩ := h.hnd; ⟨e, k q (by intros; exact fun e => nomatch e)⟩, let ⟨e, q⟩ := h.hsc; ⟨e, k q (by intros; exact fun e => nomatch e)⟩,
    let ⟨e, q⟩ := h.hpr; ⟨e, k q (by intros; exact fun e => nomatch e)⟩, fun i hi => let ⟨e, q⟩ := h.hsa i hi; ⟨e, k q (by intros; exact fun e => nomatch e)⟩, fun i hi => let ⟨e, q⟩ := h.hpa i hi; ⟨e, k q (by intros; exact fun e => nomatch e)⟩,
    fun i j hi hj => (Sig.upd_ne (h.ok.eg i j hi hj)).trans (h.hea i j hi hj)⟩
theorem tabVals_get {G : Net} {f : Nat → Addr} {i : Nat} {y : Val} (h : ((G.tab f).map (·.2))[i]? = some y) : i < G.n ∧ y = .ref (f i) := by
  unfold Net.tab at h
  rw [List.map_map, List.getElem?_map] at h
  by_cases hi : i < G.n
  · rw [List.getElem?_range hi] at h; cases h; exact ⟨hi, rfl⟩
  · rw [List.getElem?_eq_none (by simpa using hi)] at h; cases h
theorem rowVals_get {G : Net} {l : List Nat} {f : Nat → Addr} {i : Nat} {y : Val} (h : ((G.row l f).map (·.2))[i]? = some y) : ∃ hi : i < l.length, y = .ref (f l[i]) := by
  unfold Net.row at h
  rw [List.map_map, List.getElem?_map] at h
  by_cases hi : i < l.length
  · rw [List.getElem?_eq_getElem hi] at h; cases h; exact ⟨hi, rfl⟩
  · rw [List.getElem?_eq_none (by omega)] at h; cases h
section
variable {B : Bd} {φ : Phi} {A : Around} {σ : Sig} {E : Value → Shared → Prop}
theorem impl_spec {G : Net} {x d g nd sc pr : Addr} {kvs₀ : List (Str × Val)} {out₀ : Bool} {tab : List (Int × Val)} {ep : Nat} {c f₀ : Nat → Nat → Int} {s t : Nat} {inf : Int} {cap : Str} {Q : Val → Sig → Prop}
    {Inv : (Nat → Nat → Int) → Int → Prop} {μ : (Nat → Nat → Int) → Int → Nat}
    (hA : AOk A 5) (hh : A.handled = none) (J : Job B G c s t inf (.flt fInf) (fun _ => true) Inv (fun _ => False) μ) (h : G.AtC σ c f₀ [(Str.ofString "inf", .int inf)]) (hT : CoreTab σ) (hI : Inv (fun _ _ => 0) 0)
    (hx : σ x = some (.inst 676 d)) (hd : σ d = some (.dD (gdict g nd sc pr ++ kvs₀) out₀)) (hn : σ nd = some (.dI tab ep)) (hs : G.nm s ∈ tab.map (·.1)) (ht : G.nm t ∈ tab.map (·.1))
    (q : ∀ f k σ', Inv f k → Cut G c f s t → G.AtC σ' c f [(Str.ofString "inf", .int inf), (Str.ofString "flow_value", .int k)] → σ.But σ' (695 :: G.g :: G.edges) → CoreTab σ' → Q (.ref G.x) σ') :
    Cl B φ A (.ref 707) [.ref x, .int (G.nm s), .int (G.nm t), .str cap, .ref G.x, .none] [] σ Q E := by
  refine Cl.def0 (k := 4) (gl := [(Str.ofString "float", .type "float"), (Str.ofString "edmonds_karp_core", .ref 700)]) (ps := [Str.ofString "G", Str.ofString "s", Str.ofString "t", Str.ofString "capacity", Str.ofString "residual", Str.ofString "cutoff"]) (rest := [Str.ofString "R", Str.ofString "nbrs", Str.ofString "e"]) hA rfl rfl (by kernel_rfl) rfl (hb6 fun _ _ _ _ _ _ => rfl) rfl (by kernel_rfl)
    (by walk_at "gl") ?_
  intro env A' E' hL hA' eA eE hE
  have hh' : A'.handled = none := by rw [eA]; exact hh
  show Es B φ A' ⟨env, [], _⟩ [(Str.ofString "G", some (.ref x)), (Str.ofString "s", some (.int (G.nm s))), (Str.ofString "t", some (.int (G.nm t))), (Str.ofString "capacity", some (.str cap)), (Str.ofString "residual", some (.ref G.x)), (Str.ofString "cutoff", some .none), (Str.ofString "R", none), (Str.ofString "nbrs", none), (Str.ofString "e", none)] (bodyOf B.w 707) σ _ E'
  clear hL eA eE hA hh
  obtain ⟨kvs, hk, hN⟩ := h
  have ok := hN.ok
  refine Es.cons (Ex.ifs (Bt.cmp (Ev.loc (by walk_at "mem") (Ev.loc (by walk_at "mem") (Cm.notInInst (hA'.le (by decide)) hx hd gd_node hn ?_)))))
  rw [decide_eq_true hs]
  refine Tr.bool (tF (Es.nil (Seq.next (Es.cons (Ex.ifs (Bt.cmp (Ev.loc (by walk_at "mem") (Ev.loc (by walk_at "mem") (Cm.notInInst (hA'.le (by decide)) hx hd gd_node hn ?_)))))))))
  rw [decide_eq_true ht]
  refine Tr.bool (tF (Es.nil (Seq.next (Es.cons (Ex.ifs (Bt.cmp (Ev.loc (by walk_at "mem") (Ev.loc (by walk_at "mem") (Cm.eq ?_)))))))))
  rw [decide_eq_false fun e => J.hst (ok.inj _ _ J.hs J.ht e)]
  refine Tr.bool (tF (Es.nil (Seq.next (Es.cons (Ex.ifs (Bt.cmp (Ev.loc (by walk_at "mem") (Ev.none (Cm.isNoneF (by intro e; cases e) (Tr.bool (tF ?_)))))))))))
  refine Es.cons (Ex.asg (Ev.loc (by walk_at "mem") ?_))
  walk_at "stok"
  refine Seq.next (Es.nil (Seq.next ?_))
  -- all flows to nothing
  obtain ⟨e1, hsc⟩ := hN.hsc
  let Jn : Nat → Nat → Sig → Prop := fun i j τ => ∃ f, G.At τ c f [(Str.ofString "inf", .int inf)] kvs true ∧ σ.But τ G.edges ∧ (∀ a b, a < i → a < G.n → b ∈ G.S a → f a b = 0) ∧ ∀ b ∈ (G.S i).take j, f i b = 0
  have scE : G.sc ∉ G.edges := fun m => by obtain ⟨_, e⟩ := hN.edge_is m; rw [hsc] at e; cases e
  have saE : ∀ i, i < G.n → G.sa i ∉ G.edges := fun i hi m => by obtain ⟨_, e⟩ := hN.edge_is m; obtain ⟨_, e'⟩ := hN.hsa i hi; rw [e'] at e; cases e
  have up : ∀ {i j : Nat} {τ : Sig} {a : Addr} {x : Cell}, Jn i j τ → τ a = none → Jn i j (τ.upd a x) := fun {i j τ a x} ⟨f, h1, h2, h3⟩ ha => ⟨f, h1.keep0 (Sig.But.fresh Sig.But.refl ha), Sig.But.fresh h2 ha, h3⟩
  have J0 : Jn 0 0 σ := ⟨f₀, hN, Sig.But.refl, fun a b h => absurd h (Nat.not_lt_zero _), fun b h => by rw [List.take_zero] at h; cases h⟩
  refine Es.cons (Ex.for (vs := (G.tab G.sa).map (·.2)) (R := fun τ => τ G.sc = some (.dI (G.tab G.sa) e1)) (fun i m' τ => (∃ o1 o2, m' = [(Str.ofString "G", some (.ref x)), (Str.ofString "s", some (.int (G.nm s))), (Str.ofString "t", some (.int (G.nm t))), (Str.ofString "capacity", some (.str cap)), (Str.ofString "residual", some (.ref G.x)), (Str.ofString "cutoff", some .none), (Str.ofString "R", some (.ref G.x)), (Str.ofString "nbrs", o1), (Str.ofString "e", o2)]) ∧ Jn i 0 τ) hE ?_ ?_ ?_ ?_)
  · refine Ev.meth (Ev.attr (Ev.loc (by walk_at "mem") (Ga.attr ga_succ hN.hx hN.hd gd_succ (Gm.dValues hsc (El.nil (Ek.nil ⟨Kp.bi, Cl.dValues hsc fun a ha => ?_⟩))))))
    exact It.values hh' Sig.upd_self ((Sig.upd_ne (Sig.ne hsc ha)).trans hsc) ⟨⟨_, _, rfl⟩, up J0 ha⟩
  · rintro i m' τ ⟨_, f, _, hb, _⟩
    exact hb _ _ hsc scE
  · rintro i y m' τ it c' hc' hy ⟨⟨o1, o2, rfl⟩, hJ⟩
    obtain ⟨hi, rfl⟩ := tabVals_get hy
    obtain ⟨e2, hsa⟩ := hN.hsa i hi
    refine ⟨_, by walk_at "sto", ?_⟩
    have hrow : ∀ {j τ}, Jn i j τ → τ (G.sa i) = some (.dI (G.row (G.S i) (G.ea i)) e2) := fun ⟨f, _, hb, _⟩ => hb _ _ hsa (saE i hi)
    refine Es.cons (Ex.for (vs := (G.row (G.S i) (G.ea i)).map (·.2)) (R := fun τ => τ (G.sa i) = some (.dI (G.row (G.S i) (G.ea i)) e2)) (fun j m' τ => (∃ o2, m' = [(Str.ofString "G", some (.ref x)), (Str.ofString "s", some (.int (G.nm s))), (Str.ofString "t", some (.int (G.nm t))), (Str.ofString "capacity", some (.str cap)), (Str.ofString "residual", some (.ref G.x)), (Str.ofString "cutoff", some .none), (Str.ofString "R", some (.ref G.x)), (Str.ofString "nbrs", some (.ref (G.sa i))), (Str.ofString "e", o2)]) ∧ Jn i j τ) hE ?_ ?_ ?_ ?_)
    · refine Ev.meth (Ev.loc (by walk_at "mem") (Gm.dValues (hrow hJ) (El.nil (Ek.nil ⟨Kp.bi, Cl.dValues (hrow hJ) fun a ha => ?_⟩))))
      exact It.values hh' Sig.upd_self ((Sig.upd_ne (Sig.ne (hrow hJ) ha)).trans (hrow hJ)) ⟨⟨_, rfl⟩, up hJ ha⟩
    · rintro j m' τ ⟨_, hJ⟩; exact hrow hJ
    · rintro j y m' τ it' c'' hc'' hy ⟨⟨o2, rfl⟩, f, hf, hb, hz, hz'⟩
      obtain ⟨hj, rfl⟩ := rowVals_get hy
      have hm : (G.S i)[j] ∈ G.S i := List.getElem_mem _
      have he := hf.hea i _ hi hm
      refine ⟨_, by walk_at "sto", Es.cons (Ex.asgSub (Ev.int (Ev.loc (by walk_at "mem") (Ev.str (Si.dSt he (by simp) (by walk_at "std") (Seq.next (Es.nil ⟨⟨_, rfl⟩, set2 f i (G.S i)[j] 0, hf.flow hi hm, hb.upd (Net.edge_mem hi hm), fun a b ha hn' hb' => ?_, fun b hb' => ?_⟩)))))))⟩
      · rw [set2_ne (by omega)]; exact hz a b ha hn' hb'
      · by_cases z : b = (G.S i)[j]
        · rw [z, set2_self]
        · rw [set2_ne (fun w => z w.2)]
          rw [List.take_add_one, List.getElem?_eq_getElem hj] at hb'
          rcases List.mem_append.mp hb' with w | w
          · exact hz' b w
          · exact absurd (List.mem_singleton.mp w) z
    · rintro m' τ ⟨⟨o2, rfl⟩, f, hf, hb, hz, hz'⟩
      refine Seq.next (Es.nil ⟨⟨_, _, rfl⟩, f, hf, hb, fun a b ha hn' hb' => ?_, fun b hb' => by rw [List.take_zero] at hb'; cases hb'⟩)
      rcases Nat.lt_succ_iff_lt_or_eq.mp ha with w | rfl
      · exact hz a b w hn' hb'
      · exact hz' b (by rw [List.length_map, Net.row_len, List.take_length]; exact hb')
  rintro m' τ ⟨⟨o1, o2, rfl⟩, f, hf, hb, hz, _⟩
  have hN0 : G.At τ c (fun _ _ => 0) [(Str.ofString "inf", .int inf)] kvs true := hf.congr fun i j hi hj => hz i j (by rw [List.length_map, Net.tab_len]; exact hi) hi hj
  have hT1 : CoreTab τ := hT.keep hb (fun m => by
    obtain ⟨_, e⟩ := hN.edge_is m
    rcases hT with w | ⟨_, _, w, _⟩ <;> (rw [w] at e; cases e)) fun a m y e => by
    obtain ⟨_, e'⟩ := hN.edge_is m
    rw [e] at e'; cases e'
  refine Seq.next (Es.cons (Ex.ifs (Bt.cmp (Ev.loc (by walk_at "mem") (Ev.none (Cm.isNoneT (Tr.bool (tT ?_))))))))
  refine Es.cons (Ex.asg (Ev.callG (by walk_at "mem") (El.cons (Ev.str (El.nil (Ek.nil ⟨Kp.ty, Cl.floatInf hh' ?_⟩))))))
  walk_at "stok"
  refine Seq.next (Es.nil (Seq.next ?_))
  refine Es.cons (Ex.asgSub (Ev.callG (by walk_at "mem") (El.cons (Ev.loc (by walk_at "mem") (El.cons (Ev.loc (by walk_at "mem") (El.cons (Ev.loc (by walk_at "mem") (El.cons (Ev.loc (by walk_at "mem") (El.nil (Ek.nil ⟨Kp.kin (by kernel_rfl), core_again hA' hh' J ⟨kvs, hk, hN0⟩ (.head _) hT1 hI (fun _ _ _ _ hB => hB.elim) fun f k σ' hI' hc hC b' hT' => ?_⟩))))))))))))
  obtain ⟨kvs', hk', hN'⟩ := hC
  refine Ev.attr (Ev.loc (by walk_at "mem") (Ga.attr ga_graph hN'.hx hN'.hd gd_graph (Ev.str (Si.dSn hN'.hg (by simp) (by walk_at "nokeys") ?_))))
  refine Seq.next (Es.cons (Ex.ret (Ev.loc (by walk_at "mem") (q f k _ hI' (hc.resolve_left (by simp)) ⟨kvs', hk', hN'.graph⟩ ?_ ?_))))
  rotate_left
  · exact hT'.keep (l := [G.g]) (Sig.But.upd Sig.But.refl (by simp)) (fun m => by
      have e := hN'.hg
      rcases hT' with w | ⟨_, _, w, _⟩ <;> (rw [← List.mem_singleton.mp m, w] at e; cases e)) fun a m y e => by
      rw [List.mem_singleton.mp m, hN'.hg] at e; cases e
  intro a y e n
  have n1 : a ∉ G.edges := fun m => n (.tail _ (.tail _ m))
  refine (Sig.upd_ne fun z => n (by rw [z]; exact .tail _ (.head _))).trans (b' _ _ (hb _ _ e n1) fun m => ?_)
  rcases List.mem_cons.mp m with rfl | m
  · exact n (.head _)
  · exact n1 m
end
/-! ## plain sums -/
noncomputable def sm : Nat → (Nat → Int) → Int
  | 0, _ => 0
  | n + 1, g => sm n g + g n
theorem sm_congr : ∀ {n : Nat} {g h : Nat → Int}, (∀ i, i < n → g i = h i) → sm n g = sm n h
  | 0, _, _, _ => rfl
  | n + 1, g, h, e => by show sm n g + g n = sm n h + h n; rw [sm_congr fun i hi => e i (by omega), e n (by omega)]
theorem sm_le : ∀ {n : Nat} {g h : Nat → Int}, (∀ i, i < n → g i ≤ h i) → sm n g ≤ sm n h
  | 0, _, _, _ => Int.le_refl _
  | n + 1, g, h, e => by
    have h1 := sm_le (n := n) fun i hi => e i (by omega)
    have h2 := e n (by omega)
    show sm n g + g n ≤ sm n h + h n; omega
theorem sm_add : ∀ {n : Nat} {g h : Nat → Int}, sm n (fun i => g i + h i) = sm n g + sm n h
  | 0, _, _ => rfl
  | n + 1, g, h => by show sm n (fun i => g i + h i) + (g n + h n) = sm n g + g n + (sm n h + h n); rw [sm_add]; omega
theorem sm_neg : ∀ {n : Nat} {g : Nat → Int}, sm n (fun i => - g i) = - sm n g
  | 0, _ => rfl
  | n + 1, g => by show sm n (fun i => - g i) + - g n = - (sm n g + g n); rw [sm_neg]; omega
theorem sm_sub {n : Nat} {g h : Nat → Int} : sm n (fun i => g i - h i) = sm n g - sm n h := by
  have := sm_add (n := n) (g := g) (h := fun i => - h i)
  rw [sm_neg] at this
  have e : sm n (fun i => g i - h i) = sm n (fun i => g i + - h i) := sm_congr fun i _ => Int.sub_eq_add_neg
  omega
theorem sm_zero : ∀ {n : Nat}, sm n (fun _ => 0) = 0
  | 0 => rfl
  | n + 1 => by show sm n (fun _ => 0) + 0 = 0; rw [sm_zero]; rfl
theorem sm_comm : ∀ {n m : Nat} {g : Nat → Nat → Int}, sm n (fun i => sm m (fun j => g i j)) = sm m (fun j => sm n (fun i => g i j))
  | 0, m, g => sm_zero.symm
  | n + 1, m, g => by
    show sm n (fun i => sm m (fun j => g i j)) + sm m (fun j => g n j) = sm m (fun j => sm n (fun i => g i j) + g n j)
    rw [sm_comm, ← sm_add]
theorem sm_one : ∀ {n : Nat} {s : Nat} {k : Int}, s < n → sm n (fun i => if i = s then k else 0) = k
  | n + 1, s, k, h => by
    show sm n (fun i => if i = s then k else 0) + (if n = s then k else 0) = k
    by_cases e : n = s
    · rw [if_pos e, sm_congr (h := fun _ => 0) fun i hi => if_neg (by omega), sm_zero]; omega
    · rw [if_neg e, sm_one (by omega)]; omega
theorem sm_set : ∀ {n : Nat} {g : Nat → Int} {j : Nat} {x : Int}, j < n → sm n (fun i => if i = j then x else g i) = sm n g + (x - g j)
  | n + 1, g, j, x, h => by
    show sm n (fun i => if i = j then x else g i) + (if n = j then x else g n) = sm n g + g n + (x - g j)
    by_cases e : n = j
    · rw [if_pos e, sm_congr (h := g) fun i hi => if_neg (by omega), e]; omega
    · rw [if_neg e, sm_set (by omega)]; omega
theorem sm_list : ∀ {n : Nat} {g : Nat → Int}, ((List.range n).map g).sum = sm n g
  | 0, _ => rfl
  | n + 1, g => by rw [List.range_succ, List.map_append, List.sum_append, sm_list]; show _ + (g n + 0) = _ + g n; omega
theorem sm_flat : ∀ {n : Nat} {g : Nat → List Int}, ((List.range n).flatMap g).sum = sm n (fun i => (g i).sum)
  | 0, _ => rfl
  | n + 1, g => by rw [List.range_succ, List.flatMap_append, List.sum_append, sm_flat]; show _ + (List.flatMap g [n]).sum = _ + (g n).sum; simp
theorem rowSum_sm {n : Nat} {M : Nat → Nat → Int} {u : Nat} : rowSum n M u = sm n (M u) := sm_list
theorem cutV_sm {n : Nat} {C : Nat → Nat → Int} {X : Nat → Bool} : cutV n C X = sm n (fun u => sm n (fun v => if X u && !X v then C u v else 0)) := by
  show (cutL C X n n).sum = _
  unfold cutL
  rw [sm_flat]
  refine sm_congr fun u _ => ?_
  unfold rowL
  rw [sm_flat]
  refine sm_congr fun v _ => ?_
  split <;> simp
theorem cutV_le {n : Nat} {C D : Nat → Nat → Int} {X : Nat → Bool} (h : ∀ u v, u < n → v < n → X u = true → X v = false → C u v ≤ D u v) : cutV n C X ≤ cutV n D X := by
  rw [cutV_sm, cutV_sm]
  refine sm_le fun u hu => sm_le fun v hv => ?_
  cases h1 : X u <;> cases h2 : X v <;> simp
  exact h u v hu hv h1 h2
theorem cutV_congr {n : Nat} {C : Nat → Nat → Int} {X Y : Nat → Bool} (h : ∀ i, i < n → X i = Y i) : cutV n C X = cutV n C Y := by
  rw [cutV_sm, cutV_sm]
  exact sm_congr fun u hu => sm_congr fun v hv => by rw [h u hu, h v hv]
/-- what leaves a side is what its rows sum to -/
theorem cut_rows {n : Nat} {D : Nat → Nat → Int} {X : Nat → Bool} (anti : ∀ u v, u < n → v < n → D u v = - D v u) : cutV n D X = sm n (fun u => if X u then rowSum n D u else 0) := by
  rw [cutV_sm]
  have z : sm n (fun u => sm n (fun v => if X u && X v then D u v else 0)) = 0 := by
    have e : sm n (fun u => sm n (fun v => if X u && X v then D u v else 0)) = - sm n (fun u => sm n (fun v => if X u && X v then D u v else 0)) := by
      conv => lhs; rw [sm_comm]
      rw [← sm_neg]
      refine sm_congr fun u hu => ?_
      rw [← sm_neg]
      refine sm_congr fun v hv => ?_
      cases X u <;> cases X v <;> simp
      exact anti v u hv hu
    omega
  have e : sm n (fun u => if X u then rowSum n D u else 0) = sm n (fun u => sm n (fun v => if X u && !X v then D u v else 0)) + sm n (fun u => sm n (fun v => if X u && X v then D u v else 0)) := by
    rw [← sm_add]
    refine sm_congr fun u hu => ?_
    rw [← sm_add]
    cases h : X u
    · simp only [Bool.false_eq_true, if_false, Bool.false_and]
      rw [sm_congr (h := fun _ => 0) fun i _ => by omega, sm_zero]
    · rw [if_pos rfl, rowSum_sm]
      refine sm_congr fun v hv => ?_
      cases X v <;> simp
  omega
/-! ## numbers for sides -/
noncomputable def num (X : Nat → Bool) : Nat → Nat
  | 0 => 0
  | n + 1 => num X n + (if X n then 2 ^ n else 0)
theorem num_lt {X : Nat → Bool} : ∀ n, num X n < 2 ^ n
  | 0 => Nat.one_pos
  | n + 1 => by
    have := num_lt (X := X) n
    show num X n + (if X n then 2 ^ n else 0) < 2 ^ (n + 1)
    rw [Nat.pow_succ]; split <;> omega
theorem num_bit {X : Nat → Bool} : ∀ n k, k < n → bitOf (num X n) k = if X k then 1 else 0
  | n + 1, k, h => by
    show (num X n + (if X n then 2 ^ n else 0)) / 2 ^ k % 2 = _
    by_cases e : k = n
    · subst e
      have h0 := num_lt (X := X) k
      have hp : 0 < 2 ^ k := Nat.two_pow_pos k
      split
      · rw [Nat.add_div_right _ hp, Nat.div_eq_of_lt h0]
      · rw [Nat.add_zero, Nat.div_eq_of_lt h0]
    · have ih := num_bit (X := X) n k (by omega)
      rw [← ih]
      show _ = num X n / 2 ^ k % 2
      split
      · have hp : 0 < 2 ^ k := Nat.two_pow_pos k
        have e2 : 2 ^ n = 2 ^ k * (2 * 2 ^ (n - k - 1)) := by
          rw [← Nat.pow_succ', ← Nat.pow_add]; congr 1; omega
        rw [e2, Nat.add_mul_div_left _ _ hp]; omega
      · rw [Nat.add_zero]
/-- the best of all is the least cut -/
theorem Best.least {n : Nat} {C : Nat → Nat → Int} {s t : Nat} {v : Val} (h : Best n C s t (2 ^ n) v) (hs : s < n) (ht : t < n) (hst : s ≠ t) :
    ∃ b : Int, v = .int b ∧ (∃ X : Nat → Bool, X s = true ∧ X t = false ∧ b = cutV n C X) ∧ ∀ X : Nat → Bool, X s = true → X t = false → b ≤ cutV n C X := by
  rcases h with ⟨_, h⟩ | ⟨b, rfl, ⟨j, hj, ⟨h1, h2⟩, hb⟩, hm⟩
  · refine absurd ?_ (h (num (fun i => decide (i = s)) n) (num_lt n))
    rw [num_bit n s hs, num_bit n t ht]
    simp [Ne.symm hst]
  · refine ⟨b, rfl, ⟨_, by rw [h1]; rfl, by rw [h2]; rfl, hb⟩, fun X x1 x2 => ?_⟩
    have := hm (num X n) (num_lt n) (by rw [num_bit n s hs, num_bit n t ht, x1, x2]; exact ⟨rfl, rfl⟩)
    rwa [cutV_congr (Y := X) fun i hi => by rw [num_bit n i hi]; cases X i <;> rfl] at this
/-! ## a flow's change -/
structure Flow (n : Nat) (S : Nat → List Nat) (c f₀ : Nat → Nat → Int) (s t : Nat) (f : Nat → Nat → Int) (k : Int) : Prop where
  anti : ∀ u v, u < n → v < n → f u v = - f v u
  cap : ∀ u v, u < n → v ∈ S u → f u v ≤ c u v
  off : ∀ u v, u < n → v < n → v ∉ S u → f u v = 0
  sum : ∀ u, u < n → rowSum n f u - rowSum n f₀ u = if u = s then k else if u = t then - k else 0
  pos : 0 ≤ k
theorem Flow.cut {n : Nat} {S : Nat → List Nat} {c f₀ f : Nat → Nat → Int} {s t : Nat} {k : Int} (h : Flow n S c f₀ s t f k) (h0 : ∀ u v, u < n → v < n → f₀ u v = - f₀ v u) (hs : s < n) {X : Nat → Bool} (x1 : X s = true) (x2 : X t = false) :
    cutV n (fun u v => f u v - f₀ u v) X = k := by
  rw [cut_rows fun u v hu hv => by rw [h.anti u v hu hv, h0 u v hu hv]; omega]
  rw [sm_congr (h := fun i => if i = s then k else 0) fun u hu => ?_, sm_one hs]
  have e : rowSum n (fun u v => f u v - f₀ u v) u = rowSum n f u - rowSum n f₀ u := by rw [rowSum_sm, rowSum_sm, rowSum_sm]; exact sm_sub
  rw [e, h.sum u hu]
  by_cases z : u = s
  · rw [z, x1]; simp
  · by_cases z2 : u = t
    · rw [z2, x2]; rw [if_neg (by simp), if_neg fun w => z (z2.trans w)]
    · rw [if_neg z, if_neg z2, if_neg z]; simp
/-! ## a road is used -/
theorem augOne_at {b : Int} {f : Nat → Nat → Int} {u v i j : Nat} (h : u ≠ v) : augOne b f (u, v) i j = if i = u ∧ j = v then f i j + b else if i = v ∧ j = u then f i j - b else f i j := by
  show set2 (set2 f u v (f u v + b)) v u ((set2 f u v (f u v + b)) v u - b) i j = _
  by_cases e : i = v ∧ j = u
  · obtain ⟨rfl, rfl⟩ := e
    rw [set2_self, set2_ne (fun z => h z.2), if_neg (fun z => h z.2), if_pos ⟨rfl, rfl⟩]
  · rw [set2_ne e]
    by_cases e2 : i = u ∧ j = v
    · obtain ⟨rfl, rfl⟩ := e2; rw [set2_self, if_pos ⟨rfl, rfl⟩]
    · rw [set2_ne e2, if_neg e2, if_neg e]
theorem steps_mem {p : List Nat} {e : Nat × Nat} (h : e ∈ steps p) : e.1 ∈ p ∧ e.2 ∈ p := by
  obtain ⟨a, b⟩ := e
  have := List.of_mem_zip h
  exact ⟨this.1, List.mem_of_mem_tail this.2⟩
theorem augAll_at {b : Int} : ∀ {p : List Nat} {f : Nat → Nat → Int} {i j : Nat}, p.Nodup → augAll b f (steps p) i j = if (i, j) ∈ steps p then f i j + b else if (j, i) ∈ steps p then f i j - b else f i j
  | [], f, i, j, _ => by simp [steps, augAll]
  | [a], f, i, j, _ => by simp [steps, augAll]
  | a :: c :: r, f, i, j, nd => by
    have nd' := List.nodup_cons.mp nd
    have hac : a ≠ c := fun e => nd'.1 (by rw [e]; exact .head _)
    have e : augAll b f (steps (a :: c :: r)) = augAll b (augOne b f (a, c)) (steps (c :: r)) := rfl
    have e2 : steps (a :: c :: r) = (a, c) :: steps (c :: r) := rfl
    rw [e, augAll_at nd'.2, e2]
    have n1 : ∀ x, (a, x) ∉ steps (c :: r) := fun x m => nd'.1 (steps_mem m).1
    have n2 : ∀ x, (x, a) ∉ steps (c :: r) := fun x m => nd'.1 (steps_mem m).2
    simp only [List.mem_cons, Prod.mk.injEq]
    rw [augOne_at hac]
    by_cases x1 : i = a
    · subst x1
      rw [if_neg (n1 _), if_neg (n2 _)]
      by_cases x2 : j = c
      · subst x2; simp
      · have x3 : ¬ (i = c) := hac
        simp [x2, hac, n1, n2]
    · by_cases x2 : j = a
      · subst x2
        rw [if_neg (n2 _), if_neg (n1 _)]
        by_cases x3 : i = c
        · subst x3; simp [x1, n2]
        · simp [x1, x3, n1, n2]
      · simp [x1, x2]
theorem rowSum_set2 {n : Nat} {f : Nat → Nat → Int} {i j : Nat} {x : Int} {w : Nat} (hj : j < n) : rowSum n (set2 f i j x) w = rowSum n f w + if w = i then x - f i j else 0 := by
  rw [rowSum_sm, rowSum_sm]
  by_cases e : w = i
  · rw [if_pos e, ← e, ← sm_set hj]
    exact sm_congr fun k _ => by
      show (if w = w ∧ k = j then x else f w k) = _
      simp
  · rw [if_neg e, sm_congr (h := f w) fun k _ => set2_ne fun z => e z.1]; omega
theorem rowSum_one {n : Nat} {b : Int} {f : Nat → Nat → Int} {u v w : Nat} (hu : u < n) (hv : v < n) : rowSum n (augOne b f (u, v)) w = rowSum n f w + (if w = u then b else 0) - (if w = v then b else 0) := by
  show rowSum n (set2 (set2 f u v (f u v + b)) v u ((set2 f u v (f u v + b)) v u - b)) w = _
  rw [rowSum_set2 hu, rowSum_set2 hv]
  split <;> split <;> omega
theorem rowSum_all {n : Nat} {b : Int} {R : Nat → Nat → Prop} {a z : Nat} {p : List Nat} (h : Way R a z p) : ∀ {f : Nat → Nat → Int} {w : Nat}, (∀ x ∈ p, x < n) → rowSum n (augAll b f (steps p)) w = rowSum n f w + (if w = a then b else 0) - (if w = z then b else 0) := by
  induction h with
  | nil a => intro f w _; show rowSum n f w = _; omega
  | cons h1 h2 ih =>
    rename_i a c z l
    intro f w hp
    obtain ⟨r, rfl⟩ := h2.head
    have e : augAll b f (steps (a :: c :: r)) = augAll b (augOne b f (a, c)) (steps (c :: r)) := rfl
    rw [e, ih fun x hx => hp x (.tail _ hx), rowSum_one (hp a (.head _)) (hp c (.tail _ (.head _)))]
    omega
theorem foldMin {α : Type} {g : α → Int} : ∀ {l : List α} {a : Int}, l.foldl (fun x e => min x (g e)) a ≤ a ∧ (∀ e ∈ l, l.foldl (fun x e => min x (g e)) a ≤ g e) ∧ ∀ m, m ≤ a → (∀ e ∈ l, m ≤ g e) → m ≤ l.foldl (fun x e => min x (g e)) a
  | [], a => ⟨Int.le_refl _, fun _ h => (nomatch h), fun m h _ => h⟩
  | e :: r, a => by
    obtain ⟨h1, h2, h3⟩ := foldMin (g := g) (l := r) (a := min a (g e))
    refine ⟨Int.le_trans h1 (Int.min_le_left _ _), fun x hx => ?_, fun m hm hx => h3 m (Int.le_min.mpr ⟨hm, hx e (.head _)⟩) fun y hy => hx y (.tail _ hy)⟩
    rcases List.mem_cons.mp hx with rfl | hx
    · exact Int.le_trans h1 (Int.min_le_right _ _)
    · exact h2 x hx
theorem Road.lt {G : Net} (ok : G.Ok) {c f : Nat → Nat → Int} {s t : Nat} {p : List Nat} (hs : s < G.n) (R : Road G c f s t p) : ∀ x ∈ p, x < G.n := by
  have : ∀ {a z : Nat} {p : List Nat}, Way (Room G.n G.S c f) a z p → a < G.n → ∀ x ∈ p, x < G.n := by
    intro a z p h
    induction h with
    | nil a => intro ha x hx; rw [List.mem_singleton.mp hx]; exact ha
    | cons h1 h2 ih =>
      intro ha x hx
      rcases List.mem_cons.mp hx with rfl | hx
      · exact ha
      · exact ih (ok.slt _ _ h1.1 h1.2.1) x hx
  exact this R.way hs
/-- what the narrowest place gives -/
theorem Road.bott {G : Net} {c f : Nat → Nat → Int} {s t : Nat} {p : List Nat} {inf : Int} (hi : 1 ≤ inf) (hst : s ≠ t) (R : Road G c f s t p) :
    1 ≤ Mine.bott c f inf (steps p) ∧ (∀ e ∈ steps p, Mine.bott c f inf (steps p) ≤ c e.1 e.2 - f e.1 e.2) ∧ steps p ≠ [] := by
  obtain ⟨h1, h2, h3⟩ := foldMin (g := fun e : Nat × Nat => c e.1 e.2 - f e.1 e.2) (l := steps p) (a := inf)
  refine ⟨h3 1 hi fun e he => ?_, h2, ?_⟩
  · have := (R.way.steps e he).2.2; omega
  · cases R.way with
    | nil a => exact absurd rfl hst
    | cons a b => obtain ⟨r, rfl⟩ := b.head; intro e; cases e
theorem Flow.step {G : Net} (ok : G.Ok) {c f₀ f : Nat → Nat → Int} {s t : Nat} {k inf : Int} {p : List Nat} (hsym : ∀ u v, u < G.n → v < G.n → v ∈ G.S u → u ∈ G.S v) (hi : 1 ≤ inf) (hs : s < G.n) (hst : s ≠ t)
    (h : Flow G.n G.S c f₀ s t f k) (R : Road G c f s t p) : Flow G.n G.S c f₀ s t (augAll (bott c f inf (steps p)) f (steps p)) (k + bott c f inf (steps p)) := by
  obtain ⟨b1, b2, _⟩ := R.bott hi hst
  have lt := R.lt ok hs
  have edge : ∀ {u v}, (u, v) ∈ steps p → u < G.n ∧ v < G.n ∧ v ∈ G.S u ∧ u ∈ G.S v := fun {u v} m => by
    obtain ⟨h1, h2, _⟩ := R.way.steps _ m
    exact ⟨h1, ok.slt _ _ h1 h2, h2, hsym _ _ h1 (ok.slt _ _ h1 h2) h2⟩
  -- a step and its reverse are not both there
  have one : ∀ {p : List Nat} {u v : Nat}, p.Nodup → (u, v) ∈ steps p → (v, u) ∉ steps p := by
    intro p
    induction p with
    | nil => intro u v _ m; simp [steps] at m
    | cons a r ih =>
      intro u v nd m m'
      cases r with
      | nil => simp [steps] at m
      | cons c r =>
        have nd' := List.nodup_cons.mp nd
        have e2 : steps (a :: c :: r) = (a, c) :: steps (c :: r) := rfl
        rw [e2] at m m'
        rcases List.mem_cons.mp m with e | m
        · cases e
          rcases List.mem_cons.mp m' with e | m'
          · cases e; exact nd'.1 (.head _)
          · exact nd'.1 (steps_mem m').2
        · rcases List.mem_cons.mp m' with e | m'
          · cases e; exact nd'.1 (steps_mem m).2
          · exact ih nd'.2 m m'
  refine ⟨fun u v hu hv => ?_, fun u v hu hv => ?_, fun u v hu hv hn => ?_, fun u hu => ?_, by have := h.pos; omega⟩
  · rw [augAll_at R.nd, augAll_at R.nd]
    have := h.anti u v hu hv
    by_cases x1 : (u, v) ∈ steps p
    · rw [if_pos x1, if_neg (one R.nd x1), if_pos x1]; omega
    · rw [if_neg x1]
      by_cases x2 : (v, u) ∈ steps p
      · rw [if_pos x2, if_pos x2]; omega
      · rw [if_neg x2, if_neg x2, if_neg x1]; omega
  · rw [augAll_at R.nd]
    have := h.cap u v hu hv
    split
    · rename_i m; have : bott c f inf (steps p) ≤ c u v - f u v := b2 _ m; omega
    · split <;> omega
  · rw [augAll_at R.nd, if_neg fun m => hn (edge m).2.2.1, if_neg fun m => hn (edge m).2.2.2]; exact h.off u v hu hv hn
  · rw [rowSum_all R.way lt]
    have := h.sum u hu
    by_cases x1 : u = s
    · rw [if_pos x1] at this; rw [if_pos x1, if_pos x1, if_neg (by omega)]; omega
    · rw [if_neg x1] at this
      rw [if_neg x1, if_neg x1]
      by_cases x2 : u = t
      · rw [if_pos x2] at this; rw [if_pos x2, if_pos x2]; omega
      · rw [if_neg x2] at this; rw [if_neg x2, if_neg x2]; omega
structure Grid (G : Net) (c : Nat → Nat → Int) : Prop where
  ok : G.Ok
  mem : ∀ i j, i < G.n → (j ∈ G.S i ↔ (i ≠ j ∧ j < G.n ∧ (0 < c i j ∨ 0 < c j i)))
  pos : ∀ i j, i < G.n → j < G.n → 0 ≤ c i j
theorem Grid.sym {G : Net} {c : Nat → Nat → Int} (g : Grid G c) : ∀ u v, u < G.n → v < G.n → v ∈ G.S u → u ∈ G.S v := fun u v hu hv h => by
  obtain ⟨h1, _, h3⟩ := (g.mem u v hu).mp h
  exact (g.mem v u hv).mpr ⟨h1.symm, hu, h3.symm⟩
noncomputable abbrev FlowG (G : Net) (c f₀ : Nat → Nat → Int) (s t : Nat) (f : Nat → Nat → Int) (k : Int) : Prop := Flow G.n G.S c f₀ s t f k
/-- what can leave s at most -/
noncomputable def outMax (G : Net) (c f₀ : Nat → Nat → Int) (s : Nat) : Int := sm G.n (fun v => if v ∈ G.S s then c s v else 0) - rowSum G.n f₀ s
theorem Flow.le_out {G : Net} {c f₀ f : Nat → Nat → Int} {s t : Nat} {k : Int} (h : FlowG G c f₀ s t f k) (hs : s < G.n) : k ≤ outMax G c f₀ s := by
  have h1 := h.sum s hs
  rw [if_pos rfl, rowSum_sm] at h1
  have h2 : sm G.n (f s) ≤ sm G.n (fun v => if v ∈ G.S s then c s v else 0) := sm_le fun v hv => by
    split
    · rename_i m; exact h.cap s v hs m
    · rename_i m; rw [h.off s v hs hv m]; exact Int.le_refl _
  unfold outMax; omega
/-- what core is asked, from what holds of a flow -/
theorem job_of {B : Bd} {G : Net} {c f₀ : Nat → Nat → Int} {s t : Nat} {inf : Int} {cv : Val} {ltb : Int → Bool} {P : (Nat → Nat → Int) → Int → Prop} {Bad : (Nat → Nat → Int) → Prop} (g : Grid G c) (hs : s < G.n) (ht : t < G.n) (hst : s ≠ t) (hi : 1 ≤ inf)
    (hcv : ∀ (φ : Phi) (A : Around) (σ : Sig) (E : Value → Shared → Prop) (Q : Val → Sig → Prop) (i : Int), Q (.bool (ltb i)) σ → Cm B φ A .Lt (.int i) cv σ Q E)
    (hP : ∀ f k p, FlowG G c f₀ s t f k → P f k → ltb k = true → Road G c f s t p → FlowG G c f₀ s t (augAll (bott c f inf (steps p)) f (steps p)) (k + bott c f inf (steps p)) → 1 ≤ bott c f inf (steps p) →
      (inf < bott c f inf (steps p) * 2 → Bad f) ∧ (¬ inf < bott c f inf (steps p) * 2 → P (augAll (bott c f inf (steps p)) f (steps p)) (k + bott c f inf (steps p)))) :
    Job B G c s t inf cv ltb (fun f k => FlowG G c f₀ s t f k ∧ P f k) Bad (fun _ k => (outMax G c f₀ s - k).toNat) where
  hcv := hcv
  hs := hs
  ht := ht
  hst := hst
  hsym := g.sym
  hstep f k p := fun ⟨hF, hPf⟩ hl R => by
    have hF' := hF.step g.ok g.sym hi hs hst R
    obtain ⟨b1, _, _⟩ := R.bott hi hst
    obtain ⟨h1, h2⟩ := hP f k p hF hPf hl R hF' b1
    refine ⟨h1, fun hn => ⟨⟨hF', h2 hn⟩, ?_⟩⟩
    have h3 := hF'.le_out hs
    show (outMax G c f₀ s - (k + bott c f inf (steps p))).toNat < (outMax G c f₀ s - k).toNat
    omega
/-- one step takes no more than a pair of nodes has -/
theorem Road.wide {G : Net} {c f₀ f : Nat → Nat → Int} {s t : Nat} {k inf W : Int} {p : List Nat} (g : Grid G c) (hi : 1 ≤ inf) (hst : s ≠ t) (h : FlowG G c f₀ s t f k) (R : Road G c f s t p)
    (hW : ∀ i j, i < G.n → j < G.n → c i j + c j i ≤ W) : Mine.bott c f inf (steps p) ≤ W := by
  obtain ⟨_, b2, b3⟩ := R.bott hi hst
  obtain ⟨e, he⟩ := List.exists_mem_of_ne_nil _ b3
  obtain ⟨h1, h2, _⟩ := R.way.steps e he
  have h3 := g.ok.slt _ _ h1 h2
  have h4 := h.anti _ _ h1 h3
  have h5 := h.cap _ _ h3 (g.sym _ _ h1 h3 h2)
  have := hW _ _ h1 h3
  have := b2 e he
  omega
/-- no more than any cut -/
theorem Flow.le_cut {G : Net} {c f₀ f : Nat → Nat → Int} {s t : Nat} {k : Int} (g : Grid G c) (h : FlowG G c f₀ s t f k) (h0 : ∀ u v, u < G.n → v < G.n → f₀ u v = - f₀ v u) (hs : s < G.n) {X : Nat → Bool} (x1 : X s = true) (x2 : X t = false) :
    k ≤ cutV G.n (fun u v => c u v - f₀ u v) X := by
  rw [← h.cut h0 hs x1 x2]
  refine cutV_le fun u v hu hv _ _ => ?_
  have : f u v ≤ c u v := by
    by_cases m : v ∈ G.S u
    · exact h.cap u v hu m
    · rw [h.off u v hu hv m]; exact g.pos u v hu hv
  omega
/-- all of a cut without room -/
theorem Flow.is_cut {G : Net} {c f₀ f : Nat → Nat → Int} {s t : Nat} {k : Int} (g : Grid G c) (h : FlowG G c f₀ s t f k) (h0 : ∀ u v, u < G.n → v < G.n → f₀ u v = - f₀ v u) (hs : s < G.n) (hc : Cut G c f s t) :
    ∃ X : Nat → Bool, X s = true ∧ X t = false ∧ cutV G.n (fun u v => c u v - f₀ u v) X ≤ k := by
  obtain ⟨X, x1, x2, hX⟩ := hc
  refine ⟨X, x1, x2, ?_⟩
  rw [← h.cut h0 hs x1 x2]
  refine cutV_le fun u v hu hv y1 y2 => ?_
  have : c u v ≤ f u v := by
    by_cases m : v ∈ G.S u
    · exact hX u v hu m y1 y2
    · rw [h.off u v hu hv m]
      refine Int.not_lt.mp fun hl => m ((g.mem u v hu).mpr ⟨fun e => ?_, hv, .inl hl⟩)
      rw [e, y2] at y1; cases y1
  omega
/-- what the law asks of the first answer -/
theorem law_first {G : Net} {c f₀ f : Nat → Nat → Int} {s t : Nat} {k C : Int} {v : Val} (g : Grid G c) (h : FlowG G c f₀ s t f k) (h0 : ∀ u v, u < G.n → v < G.n → f₀ u v = - f₀ v u) (hs : s < G.n) (ht : t < G.n) (hst : s ≠ t)
    (hv : Best G.n (fun u v => c u v - f₀ u v) s t (2 ^ G.n) v) (hd : decide (k < C) = false ∨ Cut G c f s t) : ∃ b : Int, v = .int b ∧ k ≤ b ∧ min C b ≤ k := by
  obtain ⟨b, rfl, ⟨X, x1, x2, hb⟩, hm⟩ := hv.least hs ht hst
  refine ⟨b, rfl, by rw [hb]; exact h.le_cut g h0 hs x1 x2, ?_⟩
  rcases hd with hd | hd
  · have := of_decide_eq_false hd
    exact Int.le_trans (Int.min_le_left _ _) (by omega)
  · obtain ⟨Y, y1, y2, hY⟩ := h.is_cut g h0 hs hd
    exact Int.le_trans (Int.min_le_right _ _) (Int.le_trans (hm Y y1 y2) hY)
/-- the value of the whole run -/
theorem law_whole {G : Net} {c f : Nat → Nat → Int} {s t : Nat} {k : Int} {v : Val} (g : Grid G c) (h : FlowG G c (fun _ _ => 0) s t f k) (hs : s < G.n) (ht : t < G.n) (hst : s ≠ t)
    (hv : Best G.n c s t (2 ^ G.n) v) (hd : Cut G c f s t) : v = .int k := by
  obtain ⟨b, rfl, ⟨X, x1, x2, hb⟩, hm⟩ := hv.least hs ht hst
  have e : (fun u v => c u v - (fun _ _ => (0 : Int)) u v) = c := by funext u v; show c u v - 0 = c u v; omega
  have h1 := h.le_cut g (fun _ _ _ _ => rfl) hs x1 x2
  obtain ⟨Y, y1, y2, hY⟩ := h.is_cut g (fun _ _ _ _ => rfl) hs hd
  rw [e] at h1 hY
  have := hm Y y1 y2
  congr 1; omega
theorem Flow.zero {G : Net} {c f₀ : Nat → Nat → Int} {s t : Nat} (a : ∀ u v, u < G.n → v < G.n → f₀ u v = - f₀ v u) (cp : ∀ u v, u < G.n → v ∈ G.S u → f₀ u v ≤ c u v) (o : ∀ u v, u < G.n → v < G.n → v ∉ G.S u → f₀ u v = 0) : FlowG G c f₀ s t f₀ 0 :=
  ⟨a, cp, o, fun u _ => by
    rw [Int.sub_self]
    by_cases x : u = s
    · rw [if_pos x]
    · rw [if_neg x]
      by_cases y : u = t
      · rw [if_pos y]; rfl
      · rw [if_neg y], Int.le_refl _⟩
theorem Flow.abs {G : Net} {c f₀ f : Nat → Nat → Int} {s t : Nat} {k W : Int} (g : Grid G c) (h : FlowG G c f₀ s t f k) (hW : ∀ i j, i < G.n → j < G.n → c i j + c j i ≤ W) (h0 : 0 ≤ W) : ∀ u v, u < G.n → v < G.n → -W ≤ f u v ∧ f u v ≤ W := by
  intro u v hu hv
  by_cases m : v ∈ G.S u
  · have h1 := h.cap u v hu m
    have h2 := h.cap v u hv (g.sym u v hu hv m)
    have h3 := h.anti u v hu hv
    have := g.pos u v hu hv
    have := g.pos v u hv hu
    have := hW u v hu hv
    omega
  · rw [h.off u v hu hv m]; omega
/-- rows of a matrix, new since σ₀ -/
structure RowsM (σ₀ σ : Sig) (n i : Nat) (r : Nat → Addr) (M : Nat → Nat → Int) : Prop where
  row : ∀ k, k < i → σ (r k) = some (.list (vecOf n fun j => .int (M k j)))
  fresh : ∀ k, k < i → σ₀ (r k) = none
  inj : ∀ k l, k < i → l < i → r k = r l → k = l
  but : σ₀.But σ []
theorem RowsM.step {σ₀ σ σ' : Sig} {n i : Nat} {r : Nat → Addr} {M : Nat → Nat → Int} {t : Addr} (h : RowsM σ₀ σ n i r M) (ht : σ t = none) (b : σ.But σ' []) (ht' : σ' t = some (.list (vecOf n fun j => .int (M i j)))) : RowsM σ₀ σ' n (i + 1) (setN r i t) M := by
  have old : ∀ k, k < i → r k ≠ t := fun k hk e => by have := h.row k hk; rw [e, ht] at this; cases this
  have f : ∀ k, k < i → setN r i t k = r k := fun k hk => setN_ne (Nat.ne_of_lt hk)
  refine ⟨fun k hk => ?_, fun k hk => ?_, fun k l hk hl e => ?_, (h.but.trans b).mono fun a ha => by simp at ha⟩
  · by_cases e : k = i
    · rw [e, setN_self]; exact ht'
    · rw [f k (by omega)]; exact b _ _ (h.row k (by omega)) List.not_mem_nil
  · by_cases e : k = i
    · rw [e, setN_self]; exact none_of h.but ht
    · rw [f k (by omega)]; exact h.fresh k (by omega)
  · by_cases e1 : k = i <;> by_cases e2 : l = i
    · omega
    · rw [e1, setN_self, f l (by omega)] at e; exact absurd e.symm (old l (by omega))
    · rw [e2, setN_self, f k (by omega)] at e; exact absurd e (old k (by omega))
    · rw [f k (by omega), f l (by omega)] at e; exact h.inj k l (by omega) (by omega) e
theorem RowsM.cel {σ₀ σ : Sig} {n i : Nat} {r : Nat → Addr} {M : Nat → Nat → Int} {a : Addr} {w w' : Option Val} (h : RowsM σ₀ σ n i r M) (h0 : σ₀ a = none) (ha : σ a = some (.cel w)) : RowsM σ₀ (σ.upd a (.cel w')) n i r M :=
  ⟨fun k hk => (Sig.upd_ne fun e => by have := h.row k hk; rw [e, ha] at this; cases this).trans (h.row k hk), h.fresh, h.inj, h.but.new h0⟩
theorem RowsM.mat {σ₀ σ : Sig} {n : Nat} {r : Nat → Addr} {M : Nat → Nat → Int} {a : Addr} (h : RowsM σ₀ σ n n r M) (ha : σ a = none) : MatAt (σ.upd a (.list (vecOf n fun i => .ref (r i)))) a n r M :=
  ⟨Sig.upd_self, fun i hi => (Sig.upd_ne (Sig.ne (h.row i hi) ha)).trans (h.row i hi)⟩
theorem RowsAt.rowsM {σ₀ σ : Sig} {n i : Nat} {r : Nat → Addr} (h : RowsAt σ₀ σ n i r) : RowsM σ₀ σ n i r fun _ _ => 0 := ⟨h.row, h.fresh, h.inj, h.but⟩
section
variable {B : Bd} {φ : Phi} {A : Around} {f : Fm} {m : LM} {σ : Sig} {E : Value → Shared → Prop}
/-- [[..] for u in range(m)], u a cell -/
theorem mat_loop {σ₀ : Sig} (hb : σ₀.But σ []) {elt iter : Expr} {x : Str} {px pos : Pos} {scope : Scope} {fr : List (Str × Addr)} {gl : List (Str × Value)} {n k : Nat} (M : Nat → Nat → Int) (hk : k ≤ 1000) (hcell : cellNames scope.names = [x])
    (hrow : ∀ a i τ φ' env E, i < k → σ₀.But τ [] → τ a = some (.cel (some (.int i))) → Ev B φ' A ⟨env, (x, a) :: fr, gl⟩ [] elt τ (fun w τ' => ∃ t, w = .ref t ∧ τ t = none ∧ τ' t = some (.list (vecOf n fun j => .int (M i j))) ∧ τ.But τ' []) E) :
    CompLoop B φ A elt [⟨.Name x px, iter, [], 0⟩] scope pos [] fr gl (upTo k) (fun _ => True) σ (fun ys σ' => ∃ r, ys = (vecOf k fun i => .ref (r i)) ∧ RowsM σ₀ σ' n k r M) := by
  refine CompLoop.cel (o := Option.none) (I := fun a i ys τ => i ≤ k ∧ σ₀ a = none ∧ (∃ w, τ a = some (.cel w)) ∧ ∃ r, ys = (vecOf i fun i => .ref (r i)) ∧ RowsM σ₀ τ n i r M) hcell (fun _ _ _ _ _ => trivial) ?_ ?_ ?_ ?_ ?_
  · rintro a i ys τ ⟨hi, _, _, r, rfl, _⟩; rw [vecOf_len]; omega
  · intro a ha
    have z : ∀ {P : Nat → Prop}, ∀ k, k < 0 → P k := fun k h => absurd h (Nat.not_lt_zero _)
    exact ⟨Nat.zero_le _, none_of hb ha, ⟨_, Sig.upd_self⟩, fun _ => 0, rfl, z, z, fun k l hk => absurd hk (Nat.not_lt_zero _), Sig.But.fresh hb ha⟩
  · rintro a i ys τ ⟨_, _, hw, _⟩; exact hw
  · rintro a i y ys τ φ' env E hy ⟨hi, h0, ⟨w, hw⟩, r, rfl, h⟩
    obtain ⟨rfl, hi'⟩ := upTo_get hy
    have hi' : i < k := by omega
    have h1 := h.cel (w' := some (.int i)) h0 hw
    refine ⟨fun _ => (hrow a i _ φ' env E hi' h1.but Sig.upd_self).mono ?_, fun e => (nomatch e)⟩
    rintro w' τ' ⟨t, rfl, ht, ht', b⟩
    refine ⟨hi', h0, ⟨_, b _ _ Sig.upd_self List.not_mem_nil⟩, setN r i t, ?_, h1.step ht b ht'⟩
    rw [vecOf_succ, setN_self]
    congr 1
    exact vecOf_congr fun j hj => by rw [setN_ne (Nat.ne_of_lt hj)]
  · rintro a ys τ ⟨hi, _, _, r, e, h⟩
    rw [upTo_len, Int.toNat_natCast] at e h
    exact ⟨r, e, h⟩
/-- [.. for x in range(k)], ints that leave all as it is -/
theorem ints_loop {σ₀ : Sig} (hb : σ₀.But σ []) {elt iter : Expr} {x : Str} {px pos : Pos} {scope : Scope} {fr : List (Str × Addr)} {gl : List (Str × Value)} {k : Nat} (g : Nat → Int) (hk : k ≤ 1000) (hcell : cellNames scope.names = [])
    (step : ∀ i τ φ' env E, i < k → σ₀.But τ [] → Ev B φ' A ⟨env, fr, gl⟩ [(x, some (.int i))] elt τ (fun w τ' => w = .int (g i) ∧ τ.But τ' []) E) :
    CompLoop B φ A elt [⟨.Name x px, iter, [], 0⟩] scope pos [x] fr gl (upTo k) (fun _ => True) σ (fun ys σ' => ys = (vecOf k fun i => .int (g i)) ∧ σ₀.But σ' []) := by
  refine CompLoop.one (o := Option.none) (I := fun i ys τ => i ≤ k ∧ ys = (vecOf i fun i => .int (g i)) ∧ σ₀.But τ []) hcell (fun _ _ _ _ => trivial) ?_ ?_ ?_ ?_
  · rintro i ys τ ⟨hi, rfl, _⟩; rw [vecOf_len]; omega
  · exact ⟨Nat.zero_le _, rfl, hb⟩
  · rintro i y ys τ φ' env E hy ⟨hi, rfl, b⟩
    obtain ⟨rfl, hi'⟩ := upTo_get hy
    refine ⟨fun _ => (step i τ φ' env E (by omega) b).mono ?_, fun e => (nomatch e)⟩
    rintro w τ' ⟨rfl, b'⟩
    exact ⟨by omega, by rw [vecOf_succ], (b.trans b').mono fun a ha => by simp at ha⟩
  · rintro ys τ ⟨hi, e, b⟩
    rw [upTo_len, Int.toNat_natCast] at e
    exact ⟨e, b⟩
end
noncomputable def rowD (n : Nat) (g : Nat → Int) : PyData := .list ((List.range n).map fun j => .int (g j))
noncomputable def matD (n : Nat) (M : Nat → Nat → Int) : PyData := .list ((List.range n).map fun i => rowD n (M i))
theorem readsInts {h : Heap} : ∀ {vs : List Value} {gs : List Int}, vs.map er = gs.map Val.int → ReadsAll h vs (gs.map PyData.int) []
  | [], [], _ => .nil
  | v :: vs, g :: gs, e => by
    obtain ⟨e1, e2⟩ := List.cons.inj e
    obtain ⟨t, rfl⟩ := er_int e1
    exact .cons (as := []) (.int _ _) (readsInts e2)
theorem St.readsRow {B : Bd} {φ : Phi} {σ : Sig} {s : Shared} (S : St B φ σ s) {a : Addr} {n : Nat} {g : Nat → Int} (ha : σ a = some (.list (vecOf n fun j => .int (g j)))) : Reads s.heap (.ref a) (rowD n g) [a] := by
  obtain ⟨items, k, ho, e⟩ := S.look ha
  rw [vecOf_ints] at e
  have := readsInts (h := s.heap) e
  rw [List.map_map] at this
  exact .list ho rfl rfl this
theorem St.readsMat {B : Bd} {φ : Phi} {σ : Sig} {s : Shared} (S : St B φ σ s) {a : Addr} {n : Nat} {r : Nat → Addr} {M : Nat → Nat → Int} (h : MatAt σ a n r M) : ∃ as, Reads s.heap (.ref a) (matD n M) as := by
  obtain ⟨items, k, ho, e⟩ := S.look h.top
  have key : ∀ (l : List Nat) (vs : List Value), (∀ i ∈ l, i < n) → vs.map er = l.map (fun i => Val.ref (r i)) → ∃ as, ReadsAll s.heap vs (l.map fun i => rowD n (M i)) as := by
    intro l
    induction l with
    | nil => intro vs _ e; rw [List.map_nil, List.map_eq_nil_iff] at e; rw [e]; exact ⟨_, .nil⟩
    | cons i l ih =>
      intro vs hl e
      match vs, e with
      | v :: vs, e =>
        obtain ⟨e1, e2⟩ := List.cons.inj e
        rw [er_ref e1]
        obtain ⟨as, h2⟩ := ih vs (fun j hj => hl j (.tail _ hj)) e2
        exact ⟨_, .cons (S.readsRow (h.row i (hl i (.head _)))) h2⟩
  obtain ⟨as, h2⟩ := key (List.range n) items.toList (fun i hi => List.mem_range.mp hi) e
  exact ⟨_, .list ho rfl rfl h2⟩
theorem canInts : ∀ l : List Int, PyData.canLayAll0 (l.map PyData.int) = true
  | [] => rfl
  | g :: gs => by show (PyData.canLay0 (.int g) && _) = true; rw [canInts gs]; rfl
theorem canRow {n : Nat} {g : Nat → Int} : PyData.canLay0 (rowD n g) = true := by
  have := canInts ((List.range n).map g)
  rw [List.map_map] at this
  exact this
theorem canMat {n : Nat} {M : Nat → Nat → Int} : PyData.canLay0 (matD n M) = true := by
  have : ∀ l : List Nat, PyData.canLayAll0 (l.map fun i => rowD n (M i)) = true := fun l => by
    induction l with
    | nil => rfl
    | cons i l ih => show (PyData.canLay0 (rowD n (M i)) && _) = true; rw [canRow, ih]; rfl
  exact this _
theorem depthInts : ∀ l : List Int, PyData.depthAll (l.map PyData.int) ≤ 1
  | [] => by simp [PyData.depthAll]
  | g :: gs => by
    have := depthInts gs
    simp only [List.map_cons, PyData.depthAll, PyData.depth]; omega
theorem depthRow {n : Nat} {g : Nat → Int} : PyData.depth (rowD n g) ≤ 2 := by
  have := depthInts ((List.range n).map g)
  rw [List.map_map] at this
  simp only [rowD, PyData.depth]; exact Nat.succ_le_succ this
theorem depthMat {n : Nat} {M : Nat → Nat → Int} : PyData.depth (matD n M) ≤ 64 := by
  have : ∀ l : List Nat, PyData.depthAll (l.map fun i => rowD n (M i)) ≤ 2 := fun l => by
    induction l with
    | nil => simp [PyData.depthAll]
    | cons i l ih =>
      have := depthRow (n := n) (g := M i)
      simp only [List.map_cons, PyData.depthAll]; omega
  have := this (List.range n)
  simp only [matD, PyData.depth]; omega
theorem shapedMat {n : Nat} {M : Nat → Nat → Int} : PySem.SeqAt.shaped (matD n M) = true := by unfold PySem.SeqAt.shaped; rw [canMat, decide_eq_true depthMat]; rfl
section
variable {B : Bd} {φ : Phi} {A : Around} {σ : Sig} {E : Value → Shared → Prop}
theorem Cm.eqMat {a b : Addr} {n : Nat} {r r' : Nat → Addr} {M : Nat → Nat → Int} {Q : Val → Sig → Prop} (hA : AOk A 1) (ha : MatAt σ a n r M) (hb : MatAt σ b n r' M) (q : Q (.bool true) σ) : Cm B φ A .Eq (.ref a) (.ref b) σ Q E := fun u v hu hv s F S => by
  rw [er_ref hu, er_ref hv]
  obtain ⟨as, h1⟩ := S.readsMat ha
  obtain ⟨bs, h2⟩ := S.readsMat hb
  exact eq_dataH h1 h2 shapedMat shapedMat (by have := hA.u; rw [cLine_is]; omega) ⟨σ, S, by rw [PySem.SeqAt.eqv_refl _ canMat]; exact q⟩
theorem Cm.neMat {a b : Addr} {n : Nat} {r r' : Nat → Addr} {M : Nat → Nat → Int} {Q : Val → Sig → Prop} (hA : AOk A 1) (ha : MatAt σ a n r M) (hb : MatAt σ b n r' M) (q : Q (.bool false) σ) : Cm B φ A .NotEq (.ref a) (.ref b) σ Q E := fun u v hu hv s F S => by
  rw [er_ref hu, er_ref hv]
  obtain ⟨as, h1⟩ := S.readsMat ha
  obtain ⟨bs, h2⟩ := S.readsMat hb
  exact ne_dataH h1 h2 shapedMat shapedMat (by have := hA.u; rw [cLine_is]; omega) ⟨σ, S, by rw [PySem.SeqAt.eqv_refl _ canMat]; exact q⟩
end
section
variable {B : Bd} {φ : Phi} {A : Around} {f : Fm} {m : LM} {σ : Sig} {E : Value → Shared → Prop}
/-- a comprehension whose items are known only once the source has been asked -/
theorem comp_TX {elt target iter : Expr} {ifs : List Expr} {rest : List Comprehension} {scope : Scope} {pos p : Pos} {use : Option (Value → Sem Unit)} {ls : List Str} {fr : List (Str × Addr)} {gl : List (Str × Value)} {P : List Val → Sig → Prop} {s : Shared} {Q : Value → Shared → Prop}
    (hchk : compChk scope ls (fr.map (·.1)) (gl.map (·.1)) = true) (hin : ∀ q ∈ fr, q ∈ f.cells) (hgv : ∀ q ∈ gl, GVal B.w q.1 q.2)
    (h : Ev B φ A f m iter σ (fun v σ₁ => ∃ vs R, It B ((f.env.locals, .fr f m) :: φ) A v σ₁ vs R (fun σ₂ => CompLoop B ((f.env.locals, .fr f m) :: φ) A elt (⟨target, iter, ifs, 0⟩ :: rest) scope pos ls fr gl vs R σ₂ P)) E)
    (F : FrOk A ((f.env.locals, .fr f m) :: φ)) (S : St B ((f.env.locals, .fr f m) :: φ) σ s)
    (fin : ∀ acc C c ys σ' s', P ys σ' → (∃ f' m', c = .fr f' m') → St B ((C, c) :: (acc, .list ys) :: (f.env.locals, .fr f m) :: φ) σ' s' →
      match use with
      | none => ∀ h', Heap.SameBut C s'.heap h' → Q (.ref acc) { s' with heap := h' }
      | some u => wpAny (M0 B.w) A (u (.ref acc)) (fun _ s'' => (∃ m, s''.heap.Ns C m) ∧ ∀ h', Heap.SameBut C s''.heap h' → Q .none { s'' with heap := h' }) E s')
    (hs : ∀ x, foldedSetIterable iter f.env x = pure x) :
    wpAny (M0 B.w) A (comprehension (.ListComp elt (⟨target, iter, ifs, 0⟩ :: rest) scope pos) scope f.env p (newList []) false (eval iter f.env) use) Q E s := by
  unfold compChk at hchk
  simp only [Bool.and_eq_true, beq_iff_eq, decide_eq_true_eq] at hchk
  obtain ⟨⟨⟨⟨hk, hn⟩, hf⟩, hnd⟩, hfrees⟩ := hchk
  have ok := (S.ph _ (.head _)).1.2.1
  have hclos : closureFor scope f.env = pure fr.reverse := closureFor_is hfrees fun q hq => (ok.cell q (hin q hq)).2
  have hnames : ∀ x ∈ scope.names, x.2 = .local → scope.names.lookup x.1 = some .local := fun x hx e => by
    unfold namesChk at hn
    have := List.all_eq_true.mp hn x hx
    rw [e] at this
    simpa using this
  have hglob : f.env.globals = mainGlobals := ok.glob
  have hbuil : f.env.builtins = builtinsNs := ok.bi
  refine wpAny_comprehension_free (cl := fr.reverse) rfl hs hclos hk hnames (wpAny_mono (h s F S) (fun xv s₁ ⟨σ₁, S₁, vs, R, h₁⟩ => h₁ xv s₁ _ E rfl F S₁ fun it c σ₂ s₂ S₂ hL G => ?_) fun _ _ e => e)
  show wpAny _ _ (newList []) _ _ _
  unfold newList
  refine wpAny_newObj_type ?_ (by size_fits)
  rw [hglob]
  have S₃ := S₂.allocH (c := .list []) (tk := s₂.toks) (fun b o e => Heap.get?_push_of_some { cls := .type "list", dict := none, data := .seq ([] : List Value).toArray } e) ⟨_, _, Heap.get?_push_size _ rfl, rfl⟩
  generalize s₂.heap.objs.size = acc at S₃ ⊢
  generalize ({ s₂ with heap := s₂.heap.push { cls := .type "list", dict := none, data := .seq ([] : List Value).toArray } } : Shared) = s₃ at S₃ ⊢
  have hrev : fr.reverse.map (·.1) = (fr.map (·.1)).reverse := List.map_reverse ..
  refine newEnv_T (ls := ls) (gl := gl) (fun L c' => ?_) S₃ (by rw [hrev]; exact hf) (by rw [hrev]; exact hnd) hgv (fun e he => by cases he; exact hbuil) fun as hl hfr s₄ env hloc S₄ he => ?_
  · exact F.cons.cons.cons
  -- the frame's scope is renamed
  have S₅ : St B ((it, c 0) :: (acc, .list []) :: (env.locals, .fr ⟨{ env with scope := relabel scope f.env }, (cellNames scope.names).zip as ++ fr, gl⟩ (nones ls)) :: (f.env.locals, .fr f m) :: φ) (newCs as σ₂) s₄ := by
    rw [← hloc] at S₄
    have e1 := (S₄.ph _ (.head _)).1
    obtain ⟨l1, l2, mm, l3, l4⟩ := e1
    have l2' : FmOk B.w ⟨env, ownCs scope.names as fr.reverse, gl⟩ (nones ls) := l2
    have := S₄.head (c' := .fr ⟨{ env with scope := relabel scope f.env }, (cellNames scope.names).zip as ++ fr, gl⟩ (nones ls)) (h' := s₄.heap) (tk := s₄.toks) (fun _ _ _ e => e) ⟨l1, l2'.relabel (by rw [he]; rfl) (fun q hq => by
      unfold ownCs
      rcases List.mem_append.mp hq with h | h
      · exact List.mem_append_left _ h
      · exact List.mem_append_right _ (List.mem_reverse.mpr h)), mm, l3, l4⟩
    refine St.perm (S := this) ?_
    exact (List.Perm.cons _ (List.Perm.swap _ _ _)).trans ((List.Perm.swap _ _ _).trans (List.Perm.cons _ (List.Perm.swap _ _ _)))
  have F₅ : FrOk A ((env.locals, .fr ⟨{ env with scope := relabel scope f.env }, (cellNames scope.names).zip as ++ fr, gl⟩ (nones ls)) :: (f.env.locals, .fr f m) :: φ) := F.cons
  have run : ∀ it', it' = Value.ref it → codeAny (M0 B.w) A (.compLoop (.ListComp elt (⟨target, iter, ifs, 0⟩ :: rest) scope pos) 0 it' (.ref acc) { env with scope := relabel scope f.env }) (compPost (M0 B.w) A E use Q (.ref acc) env.locals) s₄ := by
    rintro _ rfl
    refine hL as hl hfr it c acc { env with scope := relabel scope f.env } s₄ _ G F₅ S₅ fun s₆ ys m₆ σ₆ hP S₆ => ?_
    have S₆' := S₆.swap
    have hns : ∃ m, s₆.heap.Ns env.locals m := let ⟨_, _, mm, h, _⟩ := (S₆'.ph _ (.head _)).1; ⟨mm, h⟩
    have := fin acc env.locals _ ys σ₆ s₆ hP ⟨_, _, rfl⟩ S₆'
    cases use with
    | none => obtain ⟨mm, hm⟩ := hns; exact ⟨mm, hm, this⟩
    | some u => exact wpAny_mono this (fun _ s'' ⟨⟨mm, hm⟩, hQ⟩ => ⟨mm, hm, hQ⟩) fun _ _ e => e
  exact compStart_T (B := B) (target := target) (iter := iter) (ifs := ifs) rfl (run _ rfl) (G.self _ _ s₄ 0 _ _ S₅ (run _ rfl))

theorem Ev.compX {elt target iter : Expr} {ifs : List Expr} {rest : List Comprehension} {scope : Scope} {pos : Pos} {ls : List Str} {fr : List (Str × Addr)} {gl : List (Str × Value)} {P : List Val → Sig → Prop} {Q : Val → Sig → Prop}
    (hchk : compChk scope ls (fr.map (·.1)) (gl.map (·.1)) = true) (hin : ∀ q ∈ fr, q ∈ f.cells) (hgv : ∀ q ∈ gl, GVal B.w q.1 q.2)
    (h : Ev B φ A f m iter σ (fun v σ₁ => ∃ vs R, It B ((f.env.locals, .fr f m) :: φ) A v σ₁ vs R (fun σ₂ => CompLoop B ((f.env.locals, .fr f m) :: φ) A elt (⟨target, iter, ifs, 0⟩ :: rest) scope pos ls fr gl vs R σ₂ P)) E)
    (fin : ∀ ys σ' a, P ys σ' → σ' a = Option.none → Q (.ref a) (σ'.upd a (.list ys)))
    (hs : ∀ x, foldedSetIterable iter f.env x = pure x := by intro _; rfl) :
    Ev B φ A f m (.ListComp elt (⟨target, iter, ifs, 0⟩ :: rest) scope pos) σ Q E := fun s F S => by
  show wpAny _ _ (comprehension (.ListComp elt (⟨target, iter, ifs, 0⟩ :: rest) scope pos) scope f.env (firstIterPos (⟨target, iter, ifs, 0⟩ :: rest) pos) (newList []) false (eval iter f.env) Option.none) _ _ _
  refine comp_TX (use := Option.none) hchk hin hgv h F S (fun acc C c ys σ' s' hP hC S' => ?_) hs
  intro h' hsame
  have S₁ := (S'.lose (h' := h') (tk := s'.toks) hsame.extBut).show
  exact ⟨_, S₁.1, fin ys σ' acc hP S₁.2⟩
end
/-! ## the road's net -/
noncomputable def roadC (k : Nat) (g : Nat → Int) (u v : Nat) : Int := if v = u + 1 ∧ u < k then g u else 0
theorem roadC_pos {k : Nat} {g : Nat → Int} (h : ∀ i, i < k → 3 ≤ g i) (u v : Nat) : 0 ≤ roadC k g u v := by
  unfold roadC; split
  · rename_i e; have := h u e.2; omega
  · exact Int.le_refl _
theorem road_cut {k : Nat} {g : Nat → Int} {i : Nat} (hi : i < k) : cutV (k + 1) (fun u v => roadC k g u v - (fun _ _ => (0 : Int)) u v) (fun u => decide (u ≤ i)) = g i := by
  rw [cutV_sm, sm_congr (h := fun u => if u = i then g i else 0) fun u hu => ?_, sm_one (by omega)]
  by_cases e : u = i
  · subst e
    rw [if_pos rfl, sm_congr (h := fun v => if v = u + 1 then g u else 0) fun v hv => ?_, sm_one (by omega)]
    by_cases e2 : v = u + 1
    · subst e2
      have : ¬ (u + 1 ≤ u) := by omega
      simp [roadC, hi]
    · have : roadC k g u v = 0 := if_neg fun z => e2 z.1
      rw [if_neg e2, this]; simp
  · rw [if_neg e, sm_congr (h := fun _ => 0) fun v hv => ?_, sm_zero]
    split
    · rename_i x
      simp only [Bool.and_eq_true, decide_eq_true_eq, Bool.not_eq_true', decide_eq_false_iff_not] at x
      have : roadC k g u v = 0 := if_neg fun z => by omega
      rw [this]; rfl
    · rfl
theorem sm_nonneg {n : Nat} {g : Nat → Int} (h : ∀ i, i < n → 0 ≤ g i) : 0 ≤ sm n g := by
  have := sm_le (n := n) (g := fun _ => 0) h
  rwa [sm_zero] at this
theorem sm_ge : ∀ {n : Nat} {g : Nat → Int} {i : Nat}, (∀ j, j < n → 0 ≤ g j) → i < n → g i ≤ sm n g
  | n + 1, g, i, h, hi => by
    show g i ≤ sm n g + g n
    by_cases e : i = n
    · have := sm_nonneg (n := n) (g := g) fun j hj => h j (by omega)
      rw [e]; omega
    · have := sm_ge (n := n) (g := g) (i := i) (fun j hj => h j (by omega)) (by omega)
      have := h n (by omega); omega
theorem cutV_ge {n : Nat} {C : Nat → Nat → Int} {X : Nat → Bool} {i j : Nat} (h : ∀ u v, 0 ≤ C u v) (hi : i < n) (hj : j < n) (x1 : X i = true) (x2 : X j = false) : C i j ≤ cutV n C X := by
  rw [cutV_sm]
  have t : ∀ u v, 0 ≤ (if X u && !X v then C u v else 0) := fun u v => by split; exact h u v; exact Int.le_refl _
  refine Int.le_trans ?_ (sm_ge (i := i) (fun u _ => sm_nonneg fun v _ => t u v) hi)
  refine Int.le_trans ?_ (sm_ge (i := j) (fun v _ => t i v) hj)
  rw [x1, x2]; simp
theorem crossing {X : Nat → Bool} : ∀ {k : Nat}, X 0 = true → X k = false → ∃ i, i < k ∧ X i = true ∧ X (i + 1) = false
  | 0, h1, h2 => by rw [h1] at h2; cases h2
  | k + 1, h1, h2 => by
    cases e : X k with
    | true => exact ⟨k, by omega, e, h2⟩
    | false => obtain ⟨i, a, b⟩ := crossing h1 e; exact ⟨i, by omega, b⟩
theorem road_job {B : Bd} {G : Net} {k : Nat} {gg : Nat → Int} {half : Int} (g : Grid G (roadC k gg)) (hn : G.n = k + 1) (hk : 0 < k) (h3 : 3 ≤ half) (hg : ∀ i, i < k → half ≤ gg i) :
    Job B G (roadC k gg) 0 k (2 * half) (.int 1000000000) (fun i => decide (i < 1000000000)) (fun f v => FlowG G (roadC k gg) (fun _ _ => 0) 0 k f v ∧ ((∀ i, i < k → half < gg i) → f = (fun _ _ => 0) ∧ v = 0))
      (fun f => (∀ i, i < k → half < gg i) ∧ f = fun _ _ => 0) (fun _ v => (outMax G (roadC k gg) (fun _ _ => 0) 0 - v).toNat) := by
  refine job_of g (by omega) (by omega) (by omega) (by omega) (fun φ A σ E Q i q => Cm.lt q) fun f v p hF hP hl R hF' b1 => ?_
  by_cases hA : ∀ i, i < k → half < gg i
  · obtain ⟨rfl, rfl⟩ := hP hA
    have hb : half + 1 ≤ bott (roadC k gg) (fun _ _ => 0) (2 * half) (steps p) := by
      obtain ⟨_, _, f3⟩ := foldMin (g := fun e : Nat × Nat => roadC k gg e.1 e.2 - (fun _ _ => (0 : Int)) e.1 e.2) (l := steps p) (a := 2 * half)
      refine f3 _ (by omega) fun e he => ?_
      obtain ⟨_, _, h2⟩ := R.way.steps e he
      change 0 < roadC k gg e.1 e.2 at h2
      show half + 1 ≤ roadC k gg e.1 e.2 - 0
      unfold roadC at h2 ⊢
      split at h2
      · rename_i z; rw [if_pos z]; have := hA _ z.2; omega
      · omega
    exact ⟨fun _ => ⟨hA, rfl⟩, fun hn => absurd (by omega) hn⟩
  · obtain ⟨i, hi, hle⟩ : ∃ i, i < k ∧ gg i ≤ half := by
      apply Classical.byContradiction
      intro hno
      exact hA fun i hi => Int.not_le.mp fun hle => hno ⟨i, hi, hle⟩
    have hc := hF'.le_cut g (fun _ _ _ _ => rfl) (by omega) (X := fun u => decide (u ≤ i)) (by simp) (by simp; omega)
    rw [hn, road_cut hi] at hc
    have := hF.pos
    exact ⟨fun hb => absurd hb (by omega), fun _ z => absurd z hA⟩
theorem road_end {G : Net} {k : Nat} {gg : Nat → Int} {half v : Int} {f : Nat → Nat → Int} (g : Grid G (roadC k gg)) (hn : G.n = k + 1) (hk : 0 < k) (h3 : 3 ≤ half) (h7 : half ≤ 7) (hg : ∀ i, i < k → half ≤ gg i)
    (hF : FlowG G (roadC k gg) (fun _ _ => 0) 0 k f v) (hP : (∀ i, i < k → half < gg i) → f = (fun _ _ => 0) ∧ v = 0) (hd : decide (v < 1000000000) = false ∨ Cut G (roadC k gg) f 0 k) : v = half ∧ ∃ i, i < k ∧ gg i = half := by
  have cp : ∀ u w, 0 ≤ roadC k gg u w := roadC_pos fun i hi => by have := hg i hi; omega
  by_cases hA : ∀ i, i < k → half < gg i
  · obtain ⟨rfl, rfl⟩ := hP hA
    rcases hd with hd | ⟨X, x1, x2, hX⟩
    · cases hd
    · obtain ⟨i, hi, y1, y2⟩ := crossing x1 x2
      have e : roadC k gg i (i + 1) = gg i := if_pos ⟨rfl, hi⟩
      have := hg i hi
      have := hX i (i + 1) (by omega) ((g.mem i (i + 1) (by omega)).mpr ⟨by omega, by omega, .inl (by omega)⟩) y1 y2
      rw [e] at this; change gg i ≤ 0 at this; omega
  · obtain ⟨i, hi, hle⟩ : ∃ i, i < k ∧ gg i ≤ half := by
      apply Classical.byContradiction
      intro hno
      exact hA fun i hi => Int.not_le.mp fun hle => hno ⟨i, hi, hle⟩
    have hc := hF.le_cut g (fun _ _ _ _ => rfl) (by omega) (X := fun u => decide (u ≤ i)) (by simp) (by simp; omega)
    rw [hn, road_cut hi] at hc
    have hgi := hg i hi
    rcases hd with hd | hd
    · have := of_decide_eq_false hd; omega
    · obtain ⟨X, x1, x2, hX⟩ := hF.is_cut g (fun _ _ _ _ => rfl) (by omega) hd
      obtain ⟨j, hj, y1, y2⟩ := crossing x1 x2
      have e : roadC k gg j (j + 1) = gg j := if_pos ⟨rfl, hj⟩
      have hm := cutV_ge (n := G.n) (C := fun u w => roadC k gg u w - (fun _ _ => (0 : Int)) u w) (X := X) (i := j) (j := j + 1) (fun u w => by have := cp u w; show 0 ≤ roadC k gg u w - 0; omega) (by omega) (by omega) y1 y2
      change roadC k gg j (j + 1) - 0 ≤ _ at hm
      rw [e] at hm
      have := hg j hj
      have h5 := Int.le_trans hm hX
      exact ⟨by omega, i, hi, by omega⟩
theorem DrawAt.cel {σ : Sig} {d it a : Addr} {o o' : Option Val} (h : DrawAt σ d it) (ha : σ a = some (.cel o)) : DrawAt (σ.upd a (.cel o')) d it :=
  h.keep fun b vs e _ => (Sig.upd_ne fun z => by rw [z, ha] at e; cases e).trans e
theorem DrawAt.but {σ σ' : Sig} {d it : Addr} (h : DrawAt σ d it) (b : σ.But σ' []) : DrawAt σ' d it := h.keep fun _ _ e _ => b _ _ e List.not_mem_nil
theorem DrawAt.not {σ : Sig} {d it a : Addr} {x : Cell} (h : DrawAt σ d it) (ha : σ a = some x) (n : ∀ l, x ≠ .list l) : a ∉ [d, it] := fun m => by
  obtain ⟨s, xs, h1, h2, _⟩ := h
  simp only [List.mem_cons, List.not_mem_nil, or_false] at m
  rcases m with rfl | rfl
  · rw [ha] at h1; cases h1; exact n _ rfl
  · rw [ha] at h2; cases h2; exact n _ rfl
theorem CoreTab.but {σ τ : Sig} (h : CoreTab σ) (b : σ.But τ []) : CoreTab τ := h.keep b List.not_mem_nil fun _ m => nomatch m
theorem CoreTab.cel {σ : Sig} {a : Addr} {o o' : Option Val} (h : CoreTab σ) (ha : σ a = some (.cel o)) : CoreTab (σ.upd a (.cel o')) := by
  refine h.keep (l := [a]) (Sig.But.upd Sig.But.refl (by simp)) (fun m => ?_) fun b hb x e => ?_
  · rcases h with h | ⟨_, _, h, _⟩ <;> (rw [List.mem_singleton.mp m, ha] at h; cases h)
  · rw [List.mem_singleton.mp hb, ha] at e; cases e
theorem CoreTab.draw {σ τ : Sig} {d it : Addr} (h : CoreTab σ) (hD : DrawAt σ d it) (b : σ.But τ [d, it]) : CoreTab τ := by
  refine h.keep b (fun m => ?_) fun a m x e => hD.not e (by intros; exact fun e => nomatch e) m
  rcases h with h | ⟨_, _, h, _⟩ <;> exact hD.not h (by intros; exact fun e => nomatch e) m
noncomputable def trunc (n : Nat) (f : Nat → Nat → Int) (i j : Nat) : Int := if i < n ∧ j < n then f i j else 0
theorem trunc_in {n : Nat} {f : Nat → Nat → Int} {i j : Nat} (hi : i < n) (hj : j < n) : trunc n f i j = f i j := if_pos ⟨hi, hj⟩
theorem MatAt.trunc {σ : Sig} {a : Addr} {n : Nat} {r : Nat → Addr} {M : Nat → Nat → Int} (h : MatAt σ a n r M) : MatAt σ a n r (trunc n M) := h.congr fun _ _ hi hj => (trunc_in hi hj).symm
theorem rowSum_trunc {n : Nat} {f : Nat → Nat → Int} {u : Nat} (hu : u < n) : rowSum n (trunc n f) u = rowSum n f u := by
  rw [rowSum_sm, rowSum_sm]; exact sm_congr fun j hj => trunc_in hu hj
theorem trunc_abs {n : Nat} {f : Nat → Nat → Int} {W : Int} (h0 : 0 ≤ W) (h : ∀ i j, i < n → j < n → -W ≤ f i j ∧ f i j ≤ W) : ∀ i j, -W ≤ trunc n f i j ∧ trunc n f i j ≤ W := fun i j => by
  unfold trunc; split
  · rename_i e; exact h i j e.1 e.2
  · omega
theorem replicate_zero {n : Nat} : List.replicate (Int.toNat (n : Int)) (Val.int 0) = vecOf n fun _ => .int 0 := by
  rw [Int.toNat_natCast]; exact (List.map_const' ..).trans (by rw [List.length_range]) |>.symm
theorem two_fits {x : Int} : IntMulOk 2 x := IntMulOk.of_left (by decide +kernel)
theorem Net.AtC.tab {G : Net} {σ τ : Sig} {c f : Nat → Nat → Int} {gr : List (Str × Val)} (h : G.AtC σ c f gr) (hT : CoreTab σ) (b : σ.But τ [G.d]) : CoreTab τ := by
  obtain ⟨_, _, h⟩ := h
  refine hT.keep b (fun m => ?_) fun a m x e => ?_
  · rcases hT with w | ⟨_, _, w, _⟩ <;> (have e := h.hd; rw [← List.mem_singleton.mp m, w] at e; cases e)
  · rw [List.mem_singleton.mp m, h.hd] at e; cases e
noncomputable def roadNm (i : Nat) : Int := (2 * (i : Int) + 1).fmod 7
theorem roadNm_inj : ∀ i, i < 4 → ∀ j, j < 4 → roadNm i = roadNm j → i = j := by decide +kernel
section
variable {B : Bd} {φ : Phi} {A : Around} {σ : Sig} {E : Value → Shared → Prop}
theorem road_spec {d it : Addr} {Q : Val → Sig → Prop} (hA : AOk A 12) (hh : A.handled = none) (hD : DrawAt σ d it) (hT : CoreTab σ) (q : ∀ σ', CoreTab σ' → Q (.bool true) σ') : ClN B φ A (.ref 746) [.ref d] [] σ Q E := by
  refine ClN.withF fun F0 => ?_
  refine ClN.defKE (k := 11) (ls := [Str.ofString "caps", Str.ofString "flows", Str.ofString "road", Str.ofString "R", Str.ofString "told", Str.ofString "now"])
    (gl := [(Str.ofString "_law_take", .ref 719), (Str.ofString "range", .type "range"), (Str.ofString "len", .builtin "len"), (Str.ofString "_law_network", .ref 731), (Str.ofString "edmonds_karp_core", .ref 700), (Str.ofString "NetworkXUnbounded", .ref 68), (Str.ofString "min", .builtin "min"), (Str.ofString "_law_read", .ref 736), (Str.ofString "_law_added", .ref 741)])
    (ps := [Str.ofString "draw"]) hA rfl rfl (by kernel_rfl) rfl (hb1 fun _ => rfl) (by kernel_rfl) (by decide) (by walk_at "gl") ?_
  intro env A' E' as hA' eA eE hE hlen hfr hcode hqual
  obtain ⟨cd, ch, cr, cn, rfl⟩ : ∃ a b c d, as = [a, b, c, d] := hb4 (P := fun as => ∃ a b c d, as = [a, b, c, d]) (fun a b c d => ⟨a, b, c, d, rfl⟩) as hlen
  obtain ⟨hcd, hch, hcr, hcn, -⟩ := hfr
  obtain ⟨n1, hch⟩ := Sig.upd_none hch
  obtain ⟨n2, hcr⟩ := Sig.upd_none hcr
  obtain ⟨n3, hcr⟩ := Sig.upd_none hcr
  obtain ⟨n4, hcn⟩ := Sig.upd_none hcn
  obtain ⟨n5, hcn⟩ := Sig.upd_none hcn
  obtain ⟨n6, hcn⟩ := Sig.upd_none hcn
  have hh' : A'.handled = none := by rw [eA]; exact hh
  have hfr : ∃ outer, A'.frames = some (env :: outer) := by rw [eA]; exact F0.framesOf
  clear hlen eA eE hA hcode hqual
  refine .inr ⟨cd, none, .head _, ?_, BindK.nil ?_⟩
  · show ((((σ.upd cd (.cel none)).upd ch (.cel none)).upd cr (.cel none)).upd cn (.cel none)) cd = _
    walk_at "look"
  show EsN B φ A' ⟨env, [(Str.ofString "draw", cd), (Str.ofString "half", ch), (Str.ofString "rooms", cr), (Str.ofString "n", cn)], _⟩ [(Str.ofString "caps", none), (Str.ofString "flows", none), (Str.ofString "road", none), (Str.ofString "R", none), (Str.ofString "told", none), (Str.ofString "now", none)] (bodyOf B.w 746) (((((σ.upd cd (.cel none)).upd ch (.cel none)).upd cr (.cel none)).upd cn (.cel none)).upd cd (.cel (some (.ref d)))) _ E'
  have c1 : (((((σ.upd cd (.cel none)).upd ch (.cel none)).upd cr (.cel none)).upd cn (.cel none)).upd cd (.cel (some (.ref d)))) cd = some (.cel (some (.ref d))) := Sig.upd_self
  have c2 : (((((σ.upd cd (.cel none)).upd ch (.cel none)).upd cr (.cel none)).upd cn (.cel none)).upd cd (.cel (some (.ref d)))) ch = some (.cel none) := by walk_at "look"
  have c3 : (((((σ.upd cd (.cel none)).upd ch (.cel none)).upd cr (.cel none)).upd cn (.cel none)).upd cd (.cel (some (.ref d)))) cr = some (.cel none) := by walk_at "look"
  have c4 : (((((σ.upd cd (.cel none)).upd ch (.cel none)).upd cr (.cel none)).upd cn (.cel none)).upd cd (.cel (some (.ref d)))) cn = some (.cel none) := by walk_at "look"
  have b0 : σ.But (((((σ.upd cd (.cel none)).upd ch (.cel none)).upd cr (.cel none)).upd cn (.cel none)).upd cd (.cel (some (.ref d)))) [] := Sig.But.new (Sig.But.new (Sig.But.new (Sig.But.new (Sig.But.new Sig.But.refl hcd) hch) hcr) hcn) hcd
  replace hD := hD.but b0
  replace hT := hT.but b0
  generalize ((((σ.upd cd (.cel none)).upd ch (.cel none)).upd cr (.cel none)).upd cn (.cel none)).upd cd (.cel (some (.ref d))) = τ at *
  clear b0 hcd hch hcr hcn
  -- half
  refine EsN.cons (ExN.of (Ex.asgC' (c := ch) (by walk_at "mem") (Ev.bin (Ev.int (Ev.callG (by walk_at "mem") (El.cons (Ev.cel (by walk_at "mem") c1 (El.cons (Ev.int (El.nil (Ek.nil ⟨Kp.kin (by kernel_rfl), take' (hA'.le (by decide)) hD (by decide) fun r τ₁ hr hD1 b1 => Bn.add ⟨_, b1 _ _ c2 (hD.not c2 (by intros; exact fun e => nomatch e)), SeqN.next ?_⟩⟩)))))))))))
  have ex1 := b1 _ _ c1 (hD.not c1 (by intros; exact fun e => nomatch e))
  have ex2 := b1 _ _ c2 (hD.not c2 (by intros; exact fun e => nomatch e))
  have ex3 := b1 _ _ c3 (hD.not c3 (by intros; exact fun e => nomatch e))
  have ex4 := b1 _ _ c4 (hD.not c4 (by intros; exact fun e => nomatch e))
  replace hT := (hT.draw hD b1).cel (o' := some (.int (3 + (r : Int)))) ex2
  replace hD := hD1.cel (o' := some (.int (3 + (r : Int)))) ex2
  replace c1 : (τ₁.upd ch (.cel (some (.int (3 + (r : Int)))))) cd = _ := (Sig.upd_ne n1.symm).trans ex1
  replace c2 : (τ₁.upd ch (.cel (some (.int (3 + (r : Int)))))) ch = _ := Sig.upd_self
  replace c3 : (τ₁.upd ch (.cel (some (.int (3 + (r : Int)))))) cr = _ := (Sig.upd_ne n2).trans ex3
  replace c4 : (τ₁.upd ch (.cel (some (.int (3 + (r : Int)))))) cn = _ := (Sig.upd_ne n5).trans ex4
  obtain ⟨half, hhalf⟩ : ∃ half : Int, half = 3 + (r : Int) := ⟨_, rfl⟩
  rw [← hhalf] at hT hD c1 c2 c3 c4 ⊢
  have h3 : 3 ≤ half := by omega
  have h7 : half ≤ 7 := by omega
  generalize τ₁.upd ch (.cel (some (.int half))) = τ at *
  clear ex1 ex2 ex3 ex4 b1 hD1 hhalf hr
  -- rooms
  refine EsN.cons (ExN.of (Ex.asgCompC (c := cr) (by walk_at "mem") (Ev.compX (ls := [Str.ofString "k"]) (fr := [(Str.ofString "draw", cd), (Str.ofString "half", ch)]) (gl := [(Str.ofString "_law_take", .ref 719)])
    (P := fun ys υ => ∃ (k : Nat) (g : Nat → Int), 0 < k ∧ k ≤ 3 ∧ ys = (vecOf k fun i => .int (g i)) ∧ (∀ i, i < k → half ≤ g i ∧ g i ≤ 9) ∧ DrawAt υ d it ∧ τ.But υ [d, it]) (by kernel_rfl) (by intro p hp; simp only [List.mem_cons, List.not_mem_nil, or_false] at hp ⊢; rcases hp with rfl | rfl <;> simp) (by walk_at "gl") ?_ ?_)))
  · refine Ev.callG (by walk_at "mem") (El.cons (Ev.bin (Ev.int (Ev.callG (by walk_at "mem") (El.cons (Ev.cel (by walk_at "mem") c1 (El.cons (Ev.int (El.nil (Ek.nil ⟨Kp.kin (by kernel_rfl), take' (hA'.le (by decide)) hD (by decide) fun r τ₁ hr hD1 b1 => Bn.add (El.nil (Ek.nil ⟨Kp.ty, Cl.range fun a ha => ⟨upTo (1 + (r : Int)), fun _ => True, It.range Sig.upd_self (by omega) (by omega) ?_⟩⟩))⟩))))))))))
    have k1 := b1 _ _ c1 (hD.not c1 (by intros; exact fun e => nomatch e))
    have k2 := b1 _ _ c2 (hD.not c2 (by intros; exact fun e => nomatch e))
    refine CompLoop.one (o := Option.none) (I := fun i ys υ => i ≤ 1 + r ∧ ∃ g : Nat → Int, ys = (vecOf i fun i => .int (g i)) ∧ (∀ j, j < i → half ≤ g j ∧ g j ≤ 9) ∧ DrawAt υ d it ∧ τ.But υ [d, it]) (by kernel_rfl) (fun _ _ _ _ => trivial) ?_ ?_ ?_ ?_
    · rintro i ys υ ⟨hi, g, rfl, _⟩; rw [vecOf_len]; omega
    · exact ⟨Nat.zero_le _, fun _ => 0, rfl, fun j h => absurd h (Nat.not_lt_zero _), hD1.but (Sig.But.fresh Sig.But.refl ha), Sig.But.fresh b1 ha⟩
    · rintro i y ys υ φ' env' E'' hy ⟨hi, g, rfl, hg, hDu, bu⟩
      obtain ⟨rfl, hi'⟩ := upTo_get hy
      refine ⟨fun _ => ?_, fun e => (nomatch e)⟩
      refine Ev.bin (Ev.cel (by walk_at "mem") (bu _ _ c2 (hD.not c2 (by intros; exact fun e => nomatch e))) (Ev.callG (by walk_at "mem") (El.cons (Ev.cel (by walk_at "mem") (bu _ _ c1 (hD.not c1 (by intros; exact fun e => nomatch e))) (El.cons (Ev.int (El.nil (Ek.nil ⟨Kp.kin (by kernel_rfl), take' (hA'.le (by decide)) hDu (by decide) fun r' υ₁ hr' hD2 b2 => Bn.add ⟨by omega, setN g i (half + r'), ?_, fun j hj => ?_, hD2, ?_⟩⟩))))))))
      · rw [vecOf_succ, setN_self]
        congr 1
        exact vecOf_congr fun j hj => by rw [setN_ne (Nat.ne_of_lt hj)]
      · by_cases e : j = i
        · rw [e, setN_self]; omega
        · rw [setN_ne e]; exact hg j (by omega)
      · exact (bu.trans b2).mono fun a ha => (List.mem_append.mp ha).elim id id
    · rintro ys υ ⟨hi, g, e, hg, hDu, bu⟩
      rw [upTo_len] at e hg
      have e2 : (1 + (r : Int)).toNat = 1 + r := by omega
      rw [e2] at e hg
      exact ⟨1 + r, g, by omega, by omega, e, hg, hDu, bu⟩
  rintro ys τ₁ rm ⟨k, g, hk0, hk3, rfl, hg, hD1, b1⟩ hrm
  have k1 := b1 _ _ c1 (hD.not c1 (by intros; exact fun e => nomatch e))
  have k2 := b1 _ _ c2 (hD.not c2 (by intros; exact fun e => nomatch e))
  have k3 := b1 _ _ c3 (hD.not c3 (by intros; exact fun e => nomatch e))
  have k4 := b1 _ _ c4 (hD.not c4 (by intros; exact fun e => nomatch e))
  have f1 : τ₁.But (τ₁.upd rm (.list (vecOf k fun i => .int (g i)))) [] := Sig.But.fresh Sig.But.refl hrm
  refine ⟨_, f1 _ _ k3 List.not_mem_nil, SeqN.next ?_⟩
  have r0 : (τ₁.upd rm (.list (vecOf k fun i => .int (g i)))) rm = some (.list (vecOf k fun i => .int (g i))) := Sig.upd_self
  have rne : rm ≠ cr := fun z => by rw [z, k3] at hrm; cases hrm
  replace hT := ((hT.draw hD b1).but f1).cel (o' := some (.ref rm)) (f1 _ _ k3 List.not_mem_nil)
  replace c1 : ((τ₁.upd rm (.list (vecOf k fun i => .int (g i)))).upd cr (.cel (some (.ref rm)))) cd = _ := (Sig.upd_ne n3.symm).trans (f1 _ _ k1 List.not_mem_nil)
  replace c2 : ((τ₁.upd rm (.list (vecOf k fun i => .int (g i)))).upd cr (.cel (some (.ref rm)))) ch = _ := (Sig.upd_ne n2.symm).trans (f1 _ _ k2 List.not_mem_nil)
  replace c3 : ((τ₁.upd rm (.list (vecOf k fun i => .int (g i)))).upd cr (.cel (some (.ref rm)))) cr = _ := Sig.upd_self
  replace c4 : ((τ₁.upd rm (.list (vecOf k fun i => .int (g i)))).upd cr (.cel (some (.ref rm)))) cn = _ := (Sig.upd_ne n4).trans (f1 _ _ k4 List.not_mem_nil)
  replace r0 : ((τ₁.upd rm (.list (vecOf k fun i => .int (g i)))).upd cr (.cel (some (.ref rm)))) rm = _ := (Sig.upd_ne rne).trans r0
  generalize (τ₁.upd rm (.list (vecOf k fun i => .int (g i)))).upd cr (.cel (some (.ref rm))) = τ at *
  clear k1 k2 k3 k4 f1 rne hrm b1 hD hD1
  -- n
  refine EsN.cons (ExN.of (Ex.asgC' (c := cn) (by walk_at "mem") (Ev.bin (Ev.callG (by walk_at "mem") (El.cons (Ev.cel (by walk_at "mem") c3 (El.nil (Ek.nil ⟨Kp.bi, Cl.len r0 (by rw [vecOf_len]; omega) (Ev.int (Bn.add ⟨_, c4, SeqN.next ?_⟩))⟩))))))))
  have en : ((vecOf k fun i => Val.int (g i)).length : Int) + 1 = ((k + 1 : Nat) : Int) := by rw [vecOf_len]; push_cast; rfl
  rw [en]
  clear en
  have rne : rm ≠ cn := fun z => by rw [z, c4] at r0; cases r0
  replace hT := hT.cel (o' := some (.int ((k + 1 : Nat) : Int))) c4
  replace c1 : (τ.upd cn (.cel (some (.int ((k + 1 : Nat) : Int))))) cd = _ := (Sig.upd_ne n6.symm).trans c1
  replace c2 : (τ.upd cn (.cel (some (.int ((k + 1 : Nat) : Int))))) ch = _ := (Sig.upd_ne n5.symm).trans c2
  replace c3 : (τ.upd cn (.cel (some (.int ((k + 1 : Nat) : Int))))) cr = _ := (Sig.upd_ne n4.symm).trans c3
  replace c4 : (τ.upd cn (.cel (some (.int ((k + 1 : Nat) : Int))))) cn = _ := Sig.upd_self
  replace r0 : (τ.upd cn (.cel (some (.int ((k + 1 : Nat) : Int))))) rm = _ := (Sig.upd_ne rne).trans r0
  generalize τ.upd cn (.cel (some (.int ((k + 1 : Nat) : Int)))) = τ at *
  clear rne
  -- caps
  have rng : ∀ {υ : Sig} {m' : LM} {ψ : Phi} {A'' : Around} {env' : Env} {cells : List (Str × Addr)} {gl : List (Str × Value)} {K : Sig → Prop} {E : Value → Shared → Prop} {p₁ p₂ p₃ : Pos}, υ cn = some (.cel (some (.int ((k + 1 : Nat) : Int)))) → (Str.ofString "n", cn) ∈ cells → (Str.ofString "range", Value.type "range") ∈ gl → (∀ a, υ a = none → K (υ.upd a (rangeC 0 ((k + 1 : Nat) : Int) 1))) →
      Ev B ψ A'' ⟨env', cells, gl⟩ m' (.Call (.Name (Str.ofString "range") p₁) [.Name (Str.ofString "n") p₂] [] p₃) υ (fun v σ₁ => It B ((env'.locals, .fr ⟨env', cells, gl⟩ m') :: ψ) A'' v σ₁ (upTo ((k + 1 : Nat) : Int)) (fun _ => True) K) E := fun {υ m' ψ A'' env' cells gl K E p₁ p₂ p₃} b h1 h2 h3 =>
    Ev.callG h2 (El.cons (Ev.cel h1 b (El.nil (Ek.nil ⟨Kp.ty, Cl.range fun a ha => It.range Sig.upd_self (by omega) (by omega) (h3 a ha)⟩))))
  refine EsN.cons (ExN.of (Ex.asg (Ev.bin (Ev.comp (ls := []) (fr := [(Str.ofString "n", cn), (Str.ofString "rooms", cr)]) (gl := [(Str.ofString "range", .type "range")]) (vs := upTo k) (R := fun _ => True) (P := fun ys υ => ∃ r, ys = (vecOf k fun i => .ref (r i)) ∧ RowsM τ υ (k + 1) k r (roadC k g)) (by kernel_rfl) (by intro p hp; simp only [List.mem_cons, List.not_mem_nil, or_false] at hp ⊢; rcases hp with rfl | rfl <;> simp) (by walk_at "gl") ?_ ?_))))
  · refine Ev.callG (by walk_at "mem") (El.cons (Ev.callG (by walk_at "mem") (El.cons (Ev.cel (by walk_at "mem") c3 (El.nil (Ek.nil ⟨Kp.bi, Cl.len r0 (by rw [vecOf_len]; omega) (El.nil (Ek.nil ⟨Kp.ty, Cl.range fun a ha => ?_⟩))⟩))))))
    rw [vecOf_len]
    refine It.range Sig.upd_self (by omega) (by omega) (mat_loop (σ₀ := τ) (Sig.But.fresh Sig.But.refl ha) (n := k + 1) (roadC k g) (by omega) (by kernel_rfl) ?_)
    intro a' i υ φ' env' E'' hi bu hu
    refine Ev.comp (ls := [Str.ofString "v"]) (fr := [(Str.ofString "rooms", cr), (Str.ofString "u", a')]) (gl := []) (vs := upTo ((k + 1 : Nat) : Int)) (R := fun _ => True) (P := fun ys ω => ys = (vecOf (k + 1) fun j => .int (roadC k g i j)) ∧ υ.But ω []) (by kernel_rfl) (by intro p hp; simp only [List.mem_cons, List.not_mem_nil, or_false] at hp ⊢; rcases hp with rfl | rfl <;> simp) (fun _ h => nomatch h) ?_ ?_
    · refine rng (bu _ _ c4 List.not_mem_nil) (by walk_at "mem") (by walk_at "mem") fun b hb => ints_loop (σ₀ := υ) (Sig.But.fresh Sig.But.refl hb) (fun j => roadC k g i j) (by omega) (by kernel_rfl) ?_
      intro j ω φ₂ env₂ E₂ hj bw
      have w1 := bw _ _ hu List.not_mem_nil
      have w2 := bw _ _ (bu _ _ c3 List.not_mem_nil) List.not_mem_nil
      have w3 := bw _ _ (bu _ _ r0 List.not_mem_nil) List.not_mem_nil
      refine Ev.ife (Bt.cmp (Ev.loc (by walk_at "mem") (Ev.bin (Ev.cel (by walk_at "mem") w1 (Ev.int (Bn.add (Cm.eq (Tr.bool ⟨fun h => ?_, fun h => ?_⟩))))))))
      · have hj' : (j : Int) = i + 1 := of_decide_eq_true h
        refine Ev.sub (Ev.cel (by walk_at "mem") w2 (Ev.cel (by walk_at "mem") w1 (Su.vec w3 hi (by omega) ⟨?_, Sig.But.refl⟩)))
        show Val.int (g i) = .int (roadC k g i j)
        rw [show roadC k g i j = g i from if_pos ⟨by omega, hi⟩]
      · have hj' : ¬ (j : Int) = i + 1 := of_decide_eq_false h
        refine Ev.int ⟨?_, Sig.But.refl⟩
        rw [show roadC k g i j = 0 from if_neg fun z => hj' (by omega)]
    · rintro ys ω t ⟨rfl, bw⟩ ht
      exact ⟨t, rfl, none_of bw ht, Sig.upd_self, Sig.But.fresh bw ht⟩
  rintro ys τ₁ t₁ ⟨r, rfl, hr⟩ ht₁
  have b1 : τ.But (τ₁.upd t₁ (.list (vecOf k fun i => .ref (r i)))) [] := Sig.But.fresh hr.but ht₁
  have g1 : (τ₁.upd t₁ (.list (vecOf k fun i => .ref (r i)))) t₁ = some (.list (vecOf k fun i => .ref (r i))) := Sig.upd_self
  have g2 : ∀ i, i < k → (τ₁.upd t₁ (.list (vecOf k fun i => .ref (r i)))) (r i) = some (.list (vecOf (k + 1) fun j => .int (roadC k g i j))) := fun i hi => (Sig.upd_ne (Sig.ne (hr.row i hi) ht₁)).trans (hr.row i hi)
  have g3 : ∀ i j, i < k → j < k → r i = r j → i = j := hr.inj
  generalize τ₁.upd t₁ (.list (vecOf k fun i => .ref (r i))) = υ at b1 g1 g2 ⊢
  clear hr ht₁
  refine Ev.list (El.cons (Ev.bin (Ev.list (El.cons (Ev.int (El.nil ⟨by simp, fun t₂ ht₂ => ?_⟩))))))
  have b2 : υ.But (υ.upd t₂ (.list [.int 0])) [] := Sig.But.fresh Sig.But.refl ht₂
  refine Ev.cel (by walk_at "mem") (b2 _ _ (b1 _ _ c4 List.not_mem_nil) List.not_mem_nil) (Bn.mulList Sig.upd_self (by omega) (by omega) fun t₃ ht₃ => El.nil ⟨by simp, fun t₄ ht₄ => ?_⟩)
  rw [replicate_zero] at ht₄ ⊢
  have b3 := Sig.But.fresh (c := .list (vecOf (k + 1) fun _ => .int 0)) b2 ht₃
  have b4 := Sig.But.fresh (c := .list [.ref t₃]) b3 ht₄
  have g4 : (((υ.upd t₂ (.list [.int 0])).upd t₃ (.list (vecOf (k + 1) fun _ => .int 0))).upd t₄ (.list [.ref t₃])) t₃ = some (.list (vecOf (k + 1) fun _ => .int 0)) := (Sig.upd_ne (Sig.ne Sig.upd_self ht₄)).trans Sig.upd_self
  refine Bn.addList (b4 _ _ g1 List.not_mem_nil) Sig.upd_self (by rw [vecOf_len]; show k + 1 ≤ _; omega) fun ac hac => ?_
  have b5 := Sig.But.fresh (c := .list ((vecOf k fun i => .ref (r i)) ++ [.ref t₃])) b4 hac
  have mc : MatAt ((((υ.upd t₂ (.list [.int 0])).upd t₃ (.list (vecOf (k + 1) fun _ => .int 0))).upd t₄ (.list [.ref t₃])).upd ac (.list ((vecOf k fun i => .ref (r i)) ++ [.ref t₃]))) ac (k + 1) (setN r k t₃) (roadC k g) := by
    refine ⟨?_, fun i hi => ?_⟩
    · rw [Sig.upd_self, vecOf_succ, setN_self]
      congr 3
      exact vecOf_congr fun j hj => by rw [setN_ne (Nat.ne_of_lt hj)]
    · by_cases e : i = k
      · subst e
        rw [setN_self, Sig.upd_ne (Sig.ne g4 hac), g4]
        congr 2
        exact vecOf_congr fun j _ => by rw [show roadC i g i j = 0 from if_neg fun z => Nat.lt_irrefl _ z.2]
      · rw [setN_ne e]; exact b5 _ _ (g2 i (by omega)) List.not_mem_nil
  walk_at "stok"
  refine SeqN.next ?_
  have b6 : τ.But ((((υ.upd t₂ (.list [.int 0])).upd t₃ (.list (vecOf (k + 1) fun _ => .int 0))).upd t₄ (.list [.ref t₃])).upd ac (.list ((vecOf k fun i => .ref (r i)) ++ [.ref t₃]))) [] := (b1.trans b5).mono fun a h => by simp at h
  replace hT := hT.but b6
  replace c2 := b6 _ _ c2 List.not_mem_nil
  replace c3 := b6 _ _ c3 List.not_mem_nil
  replace c4 := b6 _ _ c4 List.not_mem_nil
  replace r0 := b6 _ _ r0 List.not_mem_nil
  generalize ((((υ.upd t₂ (.list [.int 0])).upd t₃ (.list (vecOf (k + 1) fun _ => .int 0))).upd t₄ (.list [.ref t₃])).upd ac (.list ((vecOf k fun i => .ref (r i)) ++ [.ref t₃]))) = ω at *
  generalize setN r k t₃ = rc at mc
  clear b6 b5 b4 b3 b2 b1 g4 g1 g2 g3 hac ht₄ ht₃ ht₂ c1
  -- flows
  refine EsN.cons (ExN.of (Ex.asgCompL (ls := [Str.ofString "u"]) (fr := [(Str.ofString "n", cn)]) (gl := []) (vs := upTo ((k + 1 : Nat) : Int)) (R := fun _ => True) (by walk_at "mem") (by kernel_rfl) (fun q hq => by rw [List.mem_singleton.mp hq]; simp) (fun _ h => nomatch h)
    (rng c4 (by walk_at "mem") (by walk_at "mem") fun a ha => zeros_loop (σ₀ := ω) (Sig.But.fresh Sig.But.refl ha) (N := k + 1) (by omega) (by kernel_rfl) ((Sig.upd_ne (Sig.ne c4 ha)).trans c4)) ?_))
  rintro ys ω₁ af ⟨rf, rfl, hr⟩ haf
  walk_at "stok"
  refine SeqN.next ?_
  have mf := hr.rowsM.mat haf
  have b1 : ω.But (ω₁.upd af (.list (vecOf (k + 1) fun i => .ref (rf i)))) [] := Sig.But.fresh hr.but haf
  replace hT := hT.but b1
  replace c2 := b1 _ _ c2 List.not_mem_nil
  replace c3 := b1 _ _ c3 List.not_mem_nil
  replace c4 := b1 _ _ c4 List.not_mem_nil
  replace r0 := b1 _ _ r0 List.not_mem_nil
  replace mc := mc.keep fun b vs e => b1 _ _ e List.not_mem_nil
  generalize ω₁.upd af (.list (vecOf (k + 1) fun i => .ref (rf i))) = ω at *
  clear b1 hr haf
  -- the names
  refine EsN.cons (ExN.of (Ex.asgCompL (ls := [Str.ofString "k"]) (fr := []) (gl := []) (vs := upTo ((k + 1 : Nat) : Int)) (R := fun _ => True) (P := fun ys υ => ys = (vecOf (k + 1) fun i => .int (roadNm i)) ∧ ω.But υ []) (by walk_at "mem") (by kernel_rfl) (fun q hq => nomatch hq) (fun _ h => nomatch h)
    (rng c4 (by walk_at "mem") (by walk_at "mem") fun a ha => ints_loop (σ₀ := ω) (Sig.But.fresh Sig.But.refl ha) roadNm (by omega) (by kernel_rfl) fun i υ φ' env' E'' hi bu => ?_) ?_))
  · exact Ev.bin (Ev.bin (Ev.bin (Ev.int (Ev.loc (by walk_at "mem") (Bn.mul two_fits (Ev.int (Bn.add (Ev.int (Bn.mod (by decide) ⟨rfl, Sig.But.refl⟩)))))))))
  rintro ys ω₁ an ⟨rfl, hb⟩ han
  walk_at "stok"
  refine SeqN.next ?_
  have ln : (ω₁.upd an (.list (vecOf (k + 1) fun i => .int (roadNm i)))) an = some (.list (vecOf (k + 1) fun i => .int (roadNm i))) := Sig.upd_self
  have b1 : ω.But (ω₁.upd an (.list (vecOf (k + 1) fun i => .int (roadNm i)))) [] := Sig.But.fresh hb han
  replace hT := hT.but b1
  replace c2 := b1 _ _ c2 List.not_mem_nil
  replace c3 := b1 _ _ c3 List.not_mem_nil
  replace c4 := b1 _ _ c4 List.not_mem_nil
  replace r0 := b1 _ _ r0 List.not_mem_nil
  replace mc := mc.keep fun b vs e => b1 _ _ e List.not_mem_nil
  replace mf := mf.keep fun b vs e => b1 _ _ e List.not_mem_nil
  generalize ω₁.upd an (.list (vecOf (k + 1) fun i => .int (roadNm i))) = ω at *
  clear b1 hb han
  -- the network
  have inj : ∀ i j, i < k + 1 → j < k + 1 → roadNm i = roadNm j → i = j := fun i j hi hj => roadNm_inj i (by omega) j (by omega)
  refine EsN.cons (ExN.of (Ex.asg (Ev.callG (by walk_at "mem") (El.cons (Ev.loc (by walk_at "mem") (El.cons (Ev.loc (by walk_at "mem") (El.cons (Ev.loc (by walk_at "mem") (El.cons (Ev.bin (Ev.int (Ev.cel (by walk_at "mem") c2 (Bn.mul two_fits (El.nil (Ek.nil ⟨Kp.kin (by kernel_rfl), network_spec (hA'.le (by decide)) hh' (by omega) inj ln mc mf fun G ω₁ gn gm hN hS b1 => ?_⟩))))))))))))))))
  walk_at "stok"
  refine SeqN.next ?_
  replace hT := hT.but b1
  replace c2 := b1 _ _ c2 List.not_mem_nil
  replace c3 := b1 _ _ c3 List.not_mem_nil
  replace c4 := b1 _ _ c4 List.not_mem_nil
  replace r0 := b1 _ _ r0 List.not_mem_nil
  replace mc := mc.keep fun b vs e => b1 _ _ e List.not_mem_nil
  replace mf := mf.keep fun b vs e => b1 _ _ e List.not_mem_nil
  replace ln := b1 _ _ ln List.not_mem_nil
  clear b1
  have g3 : ∀ i, i < k → 3 ≤ g i := fun i hi => by have := (hg i hi).1; omega
  have grid : Grid G (roadC k g) := ⟨hN.ok, fun i j hi => by rw [gn] at hi ⊢; exact hS i j hi, fun i j _ _ => roadC_pos g3 i j⟩
  have J : Job B G (roadC k g) 0 k (2 * half) (.int 1000000000) _ _ _ _ := road_job grid gn hk0 h3 fun i hi => (hg i hi).1
  have F00 : FlowG G (roadC k g) (fun _ _ => 0) 0 k (fun _ _ => 0) 0 := Flow.zero (fun _ _ _ _ => rfl) (fun u v _ _ => roadC_pos g3 u v) fun _ _ _ _ _ => rfl
  -- core
  have en : ((k : Nat) : Int) = ((k + 1 : Nat) : Int) - 1 := by push_cast; omega
  have gnm : ∀ i, G.nm i = roadNm i := fun i => by rw [gm]
  have keep : ∀ {υ : Sig}, ω₁.But υ (G.d :: 695 :: G.edges) → υ cr = some (.cel (some (.ref rm))) ∧ υ ch = some (.cel (some (.int half))) ∧ υ cn = some (.cel (some (.int ((k + 1 : Nat) : Int)))) ∧ υ rm = some (.list (vecOf k fun i => .int (g i))) ∧ MatAt υ ac (k + 1) rc (roadC k g) ∧ MatAt υ af (k + 1) rf (fun _ _ => 0) ∧ υ an = some (.list (vecOf (k + 1) fun i => .int (roadNm i))) := fun {υ} b => by
    have nn : ∀ {a : Addr} {x : Cell}, ω₁ a = some x → (∀ l o, x ≠ .dD l o) → (∀ o, x ≠ .obj o) → (∀ l, x ≠ .dS l) → a ∉ G.d :: 695 :: G.edges := fun {a x} e h1 h2 h3 m => by
      rcases List.mem_cons.mp m with rfl | m
      · rw [hN.hd] at e; cases e; exact h1 _ _ rfl
      rcases List.mem_cons.mp m with rfl | m
      · rcases hT with h | ⟨_, _, h, _⟩ <;> (rw [h] at e; cases e; exact h2 _ rfl)
      · obtain ⟨_, e'⟩ := hN.edge_is m
        rw [e] at e'; cases e'; exact h3 _ rfl
    have kk : ∀ {a : Addr} {x : Cell}, ω₁ a = some x → (∀ l o, x ≠ .dD l o) → (∀ o, x ≠ .obj o) → (∀ l, x ≠ .dS l) → υ a = some x := fun e h1 h2 h3 => b _ _ e (nn e h1 h2 h3)
    exact ⟨kk c3 (by intros; exact fun e => nomatch e) (by intros; exact fun e => nomatch e) (by intros; exact fun e => nomatch e), kk c2 (by intros; exact fun e => nomatch e) (by intros; exact fun e => nomatch e) (by intros; exact fun e => nomatch e), kk c4 (by intros; exact fun e => nomatch e) (by intros; exact fun e => nomatch e) (by intros; exact fun e => nomatch e),
      kk r0 (by intros; exact fun e => nomatch e) (by intros; exact fun e => nomatch e) (by intros; exact fun e => nomatch e), mc.keep fun a vs e => kk e (by intros; exact fun e => nomatch e) (by intros; exact fun e => nomatch e) (by intros; exact fun e => nomatch e), mf.keep fun a vs e => kk e (by intros; exact fun e => nomatch e) (by intros; exact fun e => nomatch e) (by intros; exact fun e => nomatch e), kk ln (by intros; exact fun e => nomatch e) (by intros; exact fun e => nomatch e) (by intros; exact fun e => nomatch e)⟩
  have hgs : ∀ i, i < k → g i ∈ (List.range k).map g := fun i hi => List.mem_map_of_mem (List.mem_range.mpr hi)
  -- what a read of the network asks
  have noS : ∀ i j, i < G.n → j < G.n → j ∉ G.S i → roadC k g i j ≤ 0 := fun i j hi hj hn => by
    by_cases e : i = j
    · subst e; rw [show roadC k g i i = 0 from if_neg fun z => by omega]; exact Int.le_refl _
    · exact Int.not_lt.mp fun hl => hn ((grid.mem i j hi).mpr ⟨e, hj, .inl hl⟩)
  refine EsN.cons (ExN.tryExc (H := fun m' υ => m' = [(Str.ofString "caps", some (.ref ac)), (Str.ofString "flows", some (.ref af)), (Str.ofString "road", some (.ref an)), (Str.ofString "R", some (.ref G.x)), (Str.ofString "told", none), (Str.ofString "now", none)] ∧ G.AtC υ (roadC k g) (fun _ _ => 0) [(Str.ofString "inf", .int (2 * half))] ∧ (∀ i, i < k → half < g i) ∧ ω₁.But υ (G.d :: 695 :: G.edges) ∧ CoreTab υ) (by walk_at "mem") un_ns un_exc (by decide) hfr ?_ ?_)
  · refine EsN.cons (ExN.asg (EvN.callG (by walk_at "mem") (El.cons (Ev.loc (by walk_at "mem") (El.cons (Ev.sub (Ev.loc (by walk_at "mem") (Ev.int (Su.vec (i := 0) ln (by omega) (by omega) (El.cons (Ev.sub (Ev.loc (by walk_at "mem") (Ev.un (Ev.int (Un.neg (Su.last ln (by rw [vecOf_succ, List.getLast?_concat]) (El.cons (Ev.bin (Ev.int (Ev.int (Bn.pow (by decide) (by decide +kernel) (El.nil ?_))))))))))))))))))))))
    rw [← gnm 0, ← gnm k]
    refine ⟨Kp.kin (by kernel_rfl), core_first (hA'.le (by decide)) hh' J hN (.head _) hT ⟨F00, fun _ => ⟨rfl, rfl⟩⟩ ?_ ?_⟩
    · rintro f v s' υ ⟨hA1, rfl⟩ X hC b hT'
      exact ⟨_, υ, X, rfl, hC, hA1, b, hT'⟩
    · rintro f v υ ⟨hF, hP⟩ hd hC b hT'
      obtain ⟨rfl, i0, hi0, hg0⟩ := road_end grid gn hk0 h3 h7 (fun i hi => (hg i hi).1) hF hP hd
      obtain ⟨d3, d2, d4, dr, dmc, dmf, dln⟩ := keep b
      walk_at "stok"
      refine SeqN.next (EsN.of (Es.nil ?_))
      refine SeqN.next ?_
      refine EsN.of (Es.cons (Ex.asg (Ev.callG (by walk_at "mem") (El.cons (Ev.loc (by walk_at "mem") (El.cons (Ev.loc (by walk_at "mem") (El.cons (Ev.loc (by walk_at "mem") (El.nil (Ek.nil ⟨Kp.kin (by kernel_rfl), read_spec (hA'.le (by decide)) hC (by rw [gn, gm]; exact dln) (by rw [gn]; exact dmc) (fun _ _ _ _ => rfl) hF.cap (fun i j hi hj hn => ⟨noS i j hi hj hn, hF.off i j hi hj hn⟩) fun aw rw' υ₁ hM hC' b' => ?_⟩)))))))))))
      walk_at "stok"
      have kk : ∀ {a : Addr} {x : Cell}, υ a = some x → (∀ l o, x ≠ .dD l o) → υ₁ a = some x := fun {a x} e n => b' _ _ e fun m => by
        obtain ⟨_, _, h⟩ := hC
        rw [List.mem_singleton.mp m, h.hd] at e; cases e; exact n _ _ rfl
      replace d2 := kk d2 (by intros; exact fun e => nomatch e)
      replace d3 := kk d3 (by intros; exact fun e => nomatch e)
      replace d4 := kk d4 (by intros; exact fun e => nomatch e)
      replace dr := kk dr (by intros; exact fun e => nomatch e)
      replace dmf := dmf.keep fun a vs e => kk e (by intros; exact fun e => nomatch e)
      rw [gn] at hM
      rw [vecOf_ints] at dr
      refine Seq.next (Es.cons (Ex.ret (Ev.and4 (Ev.cmp (Ev.callG (by walk_at "mem") (El.cons (Ev.cel (by walk_at "mem") d3 (El.nil (Ek.nil ⟨Kp.bi, Cl.minOf dr (by simp; exact hk0) fun x hx hm => Ev.cel (by walk_at "mem") d2 (Cm.eq ?_)⟩)))))))))
      have hx' : x = v := by
        obtain ⟨i, hi, rfl⟩ := List.mem_map.mp hx
        have h1 := (hg i (List.mem_range.mp hi)).1
        have h2 := hm _ (hgs i0 hi0)
        omega
      rw [decide_eq_true hx']
      refine Tr.bool (tT (Ev.and3 (Ev.cmp (Ev.loc (by walk_at "mem") (Ev.cel (by walk_at "mem") d2 (Cm.eq ?_))))))
      rw [decide_eq_true rfl]
      refine Tr.bool (tT (Ev.and (Ev.cmp (Ev.loc (by walk_at "mem") (Ev.none (Cm.isNotNoneT (by intro e; cases e) (Tr.bool (tT ?_))))))))
      have ab : ∀ i j, i < G.n → j < G.n → roadC k g i j + roadC k g j i ≤ 9 := fun i j _ _ => by
        unfold roadC
        split <;> split
        · omega
        · rename_i e _; have := (hg i e.2).2; omega
        · rename_i _ e; have := (hg j e.2).2; omega
        · omega
      have tb := trunc_abs (by decide) (hF.abs grid ab (by decide))
      refine Ev.callG (by walk_at "mem") (El.cons (Ev.cel (by walk_at "mem") d4 (El.cons (Ev.loc (by walk_at "mem") (El.cons (Ev.loc (by walk_at "mem") (El.cons (Ev.int (El.cons (Ev.bin (Ev.cel (by walk_at "mem") d4 (Ev.int (Bn.sub (El.cons (Ev.loc (by walk_at "mem") (El.nil (Ek.nil ?_)))))))))))))))))
      rw [← en]
      refine ⟨Kp.kin (by kernel_rfl), added_spec (s := 0) (t := k) (hA'.le (by decide)) (by omega) dmf (hM.trunc (n := k + 1)) (fun _ _ => ⟨by decide, by decide⟩) (fun i j => by have := tb i j; rw [gn] at this; omega) (fun u hu => ?_) (fun u w hu hw => ?_) fun σ' b'' => q σ' ((hC.tab hT' b').but b'')⟩
      · have := hF.sum u (by omega)
        rw [gn] at this
        rw [rowSum_trunc hu]; exact this
      · rw [trunc_in hu hw, trunc_in hw hu]; exact hF.anti u w (by omega) (by omega)
  · rintro m' υ e P hP ⟨rfl, hC, hA1, b, hT'⟩
    obtain ⟨d3, d2, d4, dr, dmc, dmf, dln⟩ := keep b
    rw [vecOf_ints] at dr
    refine Es.cons (Ex.ret (Ev.and (Ev.cmp (Ev.callG (by walk_at "mem") (El.cons (Ev.cel (by walk_at "mem") d3 (El.nil (Ek.nil ⟨Kp.bi, Cl.minOf dr (by simp; exact hk0) fun x hx hm => Ev.cel (by walk_at "mem") d2 (Cm.gt ?_)⟩))))))))
    have hx' : half < x := by
      obtain ⟨i, hi, rfl⟩ := List.mem_map.mp hx
      exact hA1 i (List.mem_range.mp hi)
    rw [decide_eq_true hx']
    refine Tr.bool (tT (Ev.cmp (Ev.callG (by walk_at "mem") (El.cons (Ev.loc (by walk_at "mem") (El.cons (Ev.loc (by walk_at "mem") (El.cons (Ev.loc (by walk_at "mem") (El.nil (Ek.nil ⟨Kp.kin (by kernel_rfl), read_spec ((⟨hA'.d, hA'.u⟩ : AOk (A'.mark (some (.ref e))) 11).le (by decide)) hC (by rw [gn, gm]; exact dln) (by rw [gn]; exact dmc) (fun _ _ _ _ => rfl) (fun u v _ _ => roadC_pos g3 u v) (fun i j hi hj hn => ⟨noS i j hi hj hn, rfl⟩) fun aw rw' υ₁ hM hC' b' => ?_⟩)))))))))))
    rw [gn] at hM
    refine Ev.loc (by walk_at "mem") (Cm.eqMat ((⟨hA'.d, hA'.u⟩ : AOk (A'.mark (some (.ref e))) 11).le (by decide)) hM (dmf.keep fun a vs e => b' _ _ e fun m => ?_) (q _ (hC.tab hT' b')))
    obtain ⟨_, _, h⟩ := hC
    rw [List.mem_singleton.mp m, h.hd] at e; cases e
end
noncomputable def lawBody : List Stmt := match defOf q1 PySem.Challenge.rw_ej5013_01.row.name with
  | some (d, _) => d.body
  | none => []
noncomputable abbrev lawG : List (Str × Value) := [(Str.ofString "_law_draw", .ref 712), (Str.ofString "_law_take", .ref 719), (Str.ofString "range", .type "range"), (Str.ofString "_law_network", .ref 731), (Str.ofString "_law_least", .ref 724), (Str.ofString "max", .builtin "max"), (Str.ofString "edmonds_karp_core", .ref 700), (Str.ofString "_law_read", .ref 736), (Str.ofString "_law_added", .ref 741), (Str.ofString "min", .builtin "min"), (Str.ofString "DiGraph", .ref 676), (Str.ofString "_law_refused", .ref 753), (Str.ofString "edmonds_karp_impl", .ref 707), (Str.ofString "_law_road", .ref 746)]
noncomputable abbrev lawC (cn cst cc cf : Addr) : List (Str × Addr) := [(Str.ofString "n", cn), (Str.ofString "start", cst), (Str.ofString "caps", cc), (Str.ofString "flows", cf)]
noncomputable abbrev lawM (script draw names u v s t kind cutoff R most widest told now G again : Option Val) : LM :=
  [(Str.ofString "script", script), (Str.ofString "draw", draw), (Str.ofString "names", names), (Str.ofString "u", u), (Str.ofString "v", v), (Str.ofString "s", s), (Str.ofString "t", t), (Str.ofString "kind", kind), (Str.ofString "cutoff", cutoff), (Str.ofString "R", R), (Str.ofString "most", most), (Str.ofString "widest", widest), (Str.ofString "told", told), (Str.ofString "now", now), (Str.ofString "G", G), (Str.ofString "again", again)]
/-- what lies apart -/
structure LawN (n : Nat) (d it an ac af : Addr) (rc rf : Nat → Addr) : Prop where
  ci : ∀ i j, i < n → j < n → rc i = rc j → i = j
  fi : ∀ i j, i < n → j < n → rf i = rf j → i = j
  cf : ∀ i j, i < n → j < n → rc i ≠ rf j
  acf : ∀ j, j < n → ac ≠ rf j
  afc : ∀ j, j < n → af ≠ rc j
  anc : ∀ j, j < n → an ≠ rc j ∧ an ≠ rf j
  dc : ∀ j, j < n → d ≠ rc j ∧ d ≠ rf j ∧ it ≠ rc j ∧ it ≠ rf j
  nd : an ∉ [d, it] ∧ ac ∉ [d, it] ∧ af ∉ [d, it]
/-- what the law has at hand -/
structure LawB (τ : Sig) (n : Nat) (nm : Nat → Int) (d it an ac af cn cc cf : Addr) (rc rf : Nat → Addr) (c f : Nat → Nat → Int) : Prop where
  draw : DrawAt τ d it
  names : τ an = some (.list (vecOf n fun i => .int (nm i)))
  mc : MatAt τ ac n rc c
  mf : MatAt τ af n rf f
  hn : τ cn = some (.cel (some (.int n)))
  hc : τ cc = some (.cel (some (.ref ac)))
  hf : τ cf = some (.cel (some (.ref af)))
  tab : CoreTab τ
theorem LawB.but {τ τ' : Sig} {n : Nat} {nm : Nat → Int} {d it an ac af cn cc cf : Addr} {rc rf : Nat → Addr} {c f : Nat → Nat → Int} (h : LawB τ n nm d it an ac af cn cc cf rc rf c f) (b : τ.But τ' []) : LawB τ' n nm d it an ac af cn cc cf rc rf c f :=
  ⟨h.draw.but b, b _ _ h.names List.not_mem_nil, h.mc.keep fun _ _ e => b _ _ e List.not_mem_nil, h.mf.keep fun _ _ e => b _ _ e List.not_mem_nil, b _ _ h.hn List.not_mem_nil, b _ _ h.hc List.not_mem_nil, b _ _ h.hf List.not_mem_nil, h.tab.but b⟩
theorem LawB.take {τ τ' : Sig} {n : Nat} {nm : Nat → Int} {d it an ac af cn cc cf : Addr} {rc rf : Nat → Addr} {c f : Nat → Nat → Int} (h : LawB τ n nm d it an ac af cn cc cf rc rf c f) (N : LawN n d it an ac af rc rf) (hD : DrawAt τ' d it) (b : τ.But τ' [d, it]) : LawB τ' n nm d it an ac af cn cc cf rc rf c f := by
  have rr : ∀ i, i < n → rc i ∉ [d, it] ∧ rf i ∉ [d, it] := fun i hi => by
    obtain ⟨h1, h2, h3, h4⟩ := N.dc i hi
    simp only [List.mem_cons, List.not_mem_nil, or_false, not_or]
    exact ⟨⟨h1.symm, h3.symm⟩, h2.symm, h4.symm⟩
  exact ⟨hD, b _ _ h.names N.nd.1, ⟨b _ _ h.mc.top N.nd.2.1, fun i hi => b _ _ (h.mc.row i hi) (rr i hi).1⟩, ⟨b _ _ h.mf.top N.nd.2.2, fun i hi => b _ _ (h.mf.row i hi) (rr i hi).2⟩,
    b _ _ h.hn (h.draw.not h.hn (by intros; exact fun e => nomatch e)), b _ _ h.hc (h.draw.not h.hc (by intros; exact fun e => nomatch e)), b _ _ h.hf (h.draw.not h.hf (by intros; exact fun e => nomatch e)), h.tab.draw h.draw b⟩
theorem CoreTab.list {σ : Sig} {a : Addr} {vs vs' : List Val} (h : CoreTab σ) (ha : σ a = some (.list vs)) : CoreTab (σ.upd a (.list vs')) := by
  refine h.keep (l := [a]) (Sig.But.upd Sig.But.refl (by simp)) (fun m => ?_) fun b hb x e => ?_
  · rcases h with h | ⟨_, _, h, _⟩ <;> (rw [List.mem_singleton.mp m, ha] at h; cases h)
  · rw [List.mem_singleton.mp hb, ha] at e; cases e
theorem LawB.setC {τ : Sig} {n : Nat} {nm : Nat → Int} {d it an ac af cn cc cf : Addr} {rc rf : Nat → Addr} {c f : Nat → Nat → Int} (h : LawB τ n nm d it an ac af cn cc cf rc rf c f) (N : LawN n d it an ac af rc rf) {i j : Nat} (hi : i < n) (hj : j < n) {x : Int} :
    LawB (τ.upd (rc i) (.list ((vecOf n fun j => .int (c i j)).set j (.int x)))) n nm d it an ac af cn cc cf rc rf (set2 c i j x) f := by
  have hr := h.mc.row i hi
  have k : ∀ {a : Addr} {y : Cell}, τ a = some y → (∀ l, y ≠ .list l) → (τ.upd (rc i) (.list ((vecOf n fun j => .int (c i j)).set j (.int x)))) a = some y := fun {a y} e z => (Sig.upd_ne fun w => by rw [w, hr] at e; cases e; exact z _ rfl).trans e
  obtain ⟨d1, d2, d3, d4⟩ := N.dc i hi
  refine ⟨h.draw.keep fun b vs e hb => (Sig.upd_ne ?_).trans e, (Sig.upd_ne (N.anc i hi).1).trans h.names, h.mc.set N.ci hi hj, ⟨(Sig.upd_ne (N.afc i hi)).trans h.mf.top, fun l hl => (Sig.upd_ne (N.cf i l hi hl).symm).trans (h.mf.row l hl)⟩,
    k h.hn (by intros; exact fun e => nomatch e), k h.hc (by intros; exact fun e => nomatch e), k h.hf (by intros; exact fun e => nomatch e), h.tab.list hr⟩
  rcases hb with rfl | rfl
  · exact d1
  · exact d3
theorem LawB.setF {τ : Sig} {n : Nat} {nm : Nat → Int} {d it an ac af cn cc cf : Addr} {rc rf : Nat → Addr} {c f : Nat → Nat → Int} (h : LawB τ n nm d it an ac af cn cc cf rc rf c f) (N : LawN n d it an ac af rc rf) {i j : Nat} (hi : i < n) (hj : j < n) {x : Int} :
    LawB (τ.upd (rf i) (.list ((vecOf n fun j => .int (f i j)).set j (.int x)))) n nm d it an ac af cn cc cf rc rf c (set2 f i j x) := by
  have hr := h.mf.row i hi
  have k : ∀ {a : Addr} {y : Cell}, τ a = some y → (∀ l, y ≠ .list l) → (τ.upd (rf i) (.list ((vecOf n fun j => .int (f i j)).set j (.int x)))) a = some y := fun {a y} e z => (Sig.upd_ne fun w => by rw [w, hr] at e; cases e; exact z _ rfl).trans e
  obtain ⟨d1, d2, d3, d4⟩ := N.dc i hi
  refine ⟨h.draw.keep fun b vs e hb => (Sig.upd_ne ?_).trans e, (Sig.upd_ne (N.anc i hi).2).trans h.names, ⟨(Sig.upd_ne (N.acf i hi)).trans h.mc.top, fun l hl => (Sig.upd_ne (N.cf l i hl hi)).trans (h.mc.row l hl)⟩, h.mf.set N.fi hi hj,
    k h.hn (by intros; exact fun e => nomatch e), k h.hc (by intros; exact fun e => nomatch e), k h.hf (by intros; exact fun e => nomatch e), h.tab.list hr⟩
  rcases hb with rfl | rfl
  · exact d2
  · exact d4
noncomputable def lawNm (st : Nat) (i : Nat) : Int := (3 * (i : Int) + st).fmod 7
theorem lawNm_inj : ∀ st, st < 7 → ∀ i, i < 6 → ∀ j, j < 6 → lawNm st i = lawNm st j → i = j := by decide +kernel
theorem lawNm_abs {st i : Nat} : (lawNm st i).natAbs ≤ 1000 := by
  have h1 : 0 ≤ lawNm st i := Int.fmod_nonneg_of_pos _ (by decide)
  have h2 : lawNm st i < 7 := Int.fmod_lt_of_pos _ (by decide)
  omega
section
variable {B : Bd} {φ : Phi} {A : Around} {σ : Sig} {E : Value → Shared → Prop}
theorem law_A {env : Env} {sa cn cst cc cf : Addr} {xs : List Int} {Q : Fl → LM → Sig → Prop} (hA : AOk A 12) (hh : A.handled = none) (hs : BaseL B sa (xs.map Val.int)) (hx : xs.length ≤ 63) (h1 : σ cn = some (.cel none)) (h2 : σ cst = some (.cel none)) (h3 : σ cc = some (.cel none)) (h4 : σ cf = some (.cel none))
    (m1 : cn ≠ cst ∧ cn ≠ cc ∧ cn ≠ cf ∧ cst ≠ cc ∧ cst ≠ cf ∧ cc ≠ cf) (hT : CoreTab σ)
    (q : ∀ (n st : Nat) (d it an ac af : Addr) (rc rf : Nat → Addr) (τ : Sig), 2 ≤ n → n ≤ 5 → st < 7 → LawN n d it an ac af rc rf → LawB τ n (lawNm st) d it an ac af cn cc cf rc rf (fun _ _ => 0) (fun _ _ => 0) →
      EsN B φ A ⟨env, lawC cn cst cc cf, lawG⟩ (lawM (some (.ref sa)) (some (.ref d)) (some (.ref an)) none none none none none none none none none none none none none) (lawBody.drop 5) τ Q E) :
    EsN B φ A ⟨env, lawC cn cst cc cf, lawG⟩ (lawM (some (.ref sa)) none none none none none none none none none none none none none none none) lawBody σ Q E := by
  obtain ⟨n1, n2, n3, n4, n5, n6⟩ := m1
  refine EsN.cons (ExN.of (Ex.asg (Ev.callG (by walk_at "mem") (El.cons (Ev.loc (by walk_at "mem") (El.nil (Ek.nil ⟨Kp.kin (by kernel_rfl), draw_spec (hA.le (by decide)) hs hx fun d it τ hD d0 i0 b => ?_⟩)))))))
  walk_at "stok"
  refine SeqN.next ?_
  replace h1 := b _ _ h1 List.not_mem_nil
  replace h2 := b _ _ h2 List.not_mem_nil
  replace h3 := b _ _ h3 List.not_mem_nil
  replace h4 := b _ _ h4 List.not_mem_nil
  replace hT := hT.but b
  clear b d0 i0 hs hx
  -- n, start
  refine EsN.cons (ExN.of (Ex.asgPlaces (fun ok => ?_) (Ev.tup (El.cons (Ev.bin (Ev.int (Ev.callG (by walk_at "mem") (El.cons (Ev.loc (by walk_at "mem") (El.cons (Ev.int (El.nil (Ek.nil ⟨Kp.kin (by kernel_rfl), take' (hA.le (by decide)) hD (by decide) fun r τ₁ hr hD1 b1 => Bn.add (El.cons (Ev.callG (by walk_at "mem") (El.cons (Ev.loc (by walk_at "mem") (El.cons (Ev.int (El.nil (Ek.nil ⟨Kp.kin (by kernel_rfl), take' (hA.le (by decide)) hD1 (by decide) fun st τ₂ hst hD2 b2 => El.nil ⟨by simp, fun t ht => ?_⟩⟩))))))))⟩)))))))))))))
  · show env.kindOf (Str.ofString "n") ≠ some .local
    have := (ok.cell (Str.ofString "n", cn) (by walk_at "mem")).1
    intro z
    rcases this with e | ⟨e, _⟩ <;> (change env.kindOf (Str.ofString "n") = _ at e; rw [e] at z; cases z)
  have k1 := b2 _ _ (b1 _ _ h1 (hD.not h1 (by intros; exact fun e => nomatch e))) (hD.not h1 (by intros; exact fun e => nomatch e))
  have k2 := b2 _ _ (b1 _ _ h2 (hD.not h2 (by intros; exact fun e => nomatch e))) (hD.not h2 (by intros; exact fun e => nomatch e))
  have k3 := b2 _ _ (b1 _ _ h3 (hD.not h3 (by intros; exact fun e => nomatch e))) (hD.not h3 (by intros; exact fun e => nomatch e))
  have k4 := b2 _ _ (b1 _ _ h4 (hD.not h4 (by intros; exact fun e => nomatch e))) (hD.not h4 (by intros; exact fun e => nomatch e))
  replace hT := (hT.draw hD b1).draw hD1 b2
  have b3 : τ₂.But (τ₂.upd t (.tup [.int (2 + (r : Int)), .int (st : Int)])) [] := Sig.But.fresh Sig.But.refl ht
  replace hT := hT.but b3
  replace hD := hD2.but b3
  replace k1 := b3 _ _ k1 List.not_mem_nil
  replace k2 := b3 _ _ k2 List.not_mem_nil
  replace k3 := b3 _ _ k3 List.not_mem_nil
  replace k4 := b3 _ _ k4 List.not_mem_nil
  refine As.tup2 hh Sig.upd_self (As.cel (c := cn) (by walk_at "mem") k1 (As.cel (c := cst) (by walk_at "mem") ((Sig.upd_ne n1.symm).trans k2) (SeqN.next ?_)))
  generalize τ₂.upd t (.tup [.int (2 + (r : Int)), .int (st : Int)]) = υ at *
  have en : (2 + (r : Int)) = ((2 + r : Nat) : Int) := by push_cast; rfl
  rw [en]
  obtain ⟨n, hn⟩ : ∃ n, n = 2 + r := ⟨_, rfl⟩
  rw [← hn]
  have hn2 : 2 ≤ n := by omega
  have hn5 : n ≤ 5 := by omega
  replace hT := (hT.cel (o' := some (.int (n : Int))) k1).cel (o' := some (.int (st : Int))) ((Sig.upd_ne n1.symm).trans k2)
  replace hD := (hD.cel (o' := some (.int (n : Int))) k1).cel (o' := some (.int (st : Int))) ((Sig.upd_ne n1.symm).trans k2)
  have c1 : ((υ.upd cn (.cel (some (.int (n : Int))))).upd cst (.cel (some (.int (st : Int))))) cn = some (.cel (some (.int n))) := (Sig.upd_ne n1).trans Sig.upd_self
  have c2 : ((υ.upd cn (.cel (some (.int (n : Int))))).upd cst (.cel (some (.int (st : Int))))) cst = some (.cel (some (.int st))) := Sig.upd_self
  have c3 : ((υ.upd cn (.cel (some (.int (n : Int))))).upd cst (.cel (some (.int (st : Int))))) cc = some (.cel none) := (Sig.upd_ne n4.symm).trans ((Sig.upd_ne n2.symm).trans k3)
  have c4 : ((υ.upd cn (.cel (some (.int (n : Int))))).upd cst (.cel (some (.int (st : Int))))) cf = some (.cel none) := (Sig.upd_ne n5.symm).trans ((Sig.upd_ne n3.symm).trans k4)
  generalize (υ.upd cn (.cel (some (.int (n : Int))))).upd cst (.cel (some (.int (st : Int)))) = ω at *
  clear k1 k2 k3 k4 b3 b2 b1 hD1 hD2 h1 h2 h3 h4 ht en
  have hst' : st < 7 := by omega
  -- names
  have rng : ∀ {υ : Sig} {m' : LM} {ψ : Phi} {A'' : Around} {env' : Env} {cells : List (Str × Addr)} {gl : List (Str × Value)} {K : Sig → Prop} {E : Value → Shared → Prop} {p₁ p₂ p₃ : Pos}, υ cn = some (.cel (some (.int (n : Int)))) → (Str.ofString "n", cn) ∈ cells → (Str.ofString "range", Value.type "range") ∈ gl → (∀ a, υ a = none → K (υ.upd a (rangeC 0 (n : Int) 1))) →
      Ev B ψ A'' ⟨env', cells, gl⟩ m' (.Call (.Name (Str.ofString "range") p₁) [.Name (Str.ofString "n") p₂] [] p₃) υ (fun v σ₁ => It B ((env'.locals, .fr ⟨env', cells, gl⟩ m') :: ψ) A'' v σ₁ (upTo (n : Int)) (fun _ => True) K) E := fun {υ m' ψ A'' env' cells gl K E p₁ p₂ p₃} b h1 h2 h3 =>
    Ev.callG h2 (El.cons (Ev.cel h1 b (El.nil (Ek.nil ⟨Kp.ty, Cl.range fun a ha => It.range Sig.upd_self (by omega) (by omega) (h3 a ha)⟩))))
  refine EsN.cons (ExN.of (Ex.asgCompL (ls := [Str.ofString "k"]) (fr := [(Str.ofString "start", cst)]) (gl := []) (vs := upTo (n : Int)) (R := fun _ => True) (P := fun ys υ => ys = (vecOf n fun i => .int (lawNm st i)) ∧ ω.But υ []) (by walk_at "mem") (by kernel_rfl) (fun q hq => by rw [List.mem_singleton.mp hq]; simp) (fun _ h => nomatch h)
    (rng c1 (by walk_at "mem") (by walk_at "mem") fun a ha => ints_loop (σ₀ := ω) (Sig.But.fresh Sig.But.refl ha) (lawNm st) (by omega) (by kernel_rfl) fun i υ φ' env' E'' hi bu => ?_) ?_))
  · exact Ev.bin (Ev.bin (Ev.bin (Ev.int (Ev.loc (by walk_at "mem") (Bn.mul (IntMulOk.of_left (by decide +kernel)) (Ev.cel (by walk_at "mem") (bu _ _ c2 List.not_mem_nil) (Bn.add (Ev.int (Bn.mod (by decide) ⟨rfl, Sig.But.refl⟩)))))))))
  rintro ys ω₁ an ⟨rfl, hb⟩ han
  walk_at "stok"
  refine SeqN.next ?_
  have ln : (ω₁.upd an (.list (vecOf n fun i => .int (lawNm st i)))) an = some (.list (vecOf n fun i => .int (lawNm st i))) := Sig.upd_self
  have b1 : ω.But (ω₁.upd an (.list (vecOf n fun i => .int (lawNm st i)))) [] := Sig.But.fresh hb han
  have and' : an ≠ d ∧ an ≠ it := by
    obtain ⟨_, _, e1, e2, _⟩ := hD.but hb
    exact ⟨(Sig.ne e1 han).symm, (Sig.ne e2 han).symm⟩
  replace hT := hT.but b1
  replace hD := hD.but b1
  replace c1 := b1 _ _ c1 List.not_mem_nil
  replace c3 := b1 _ _ c3 List.not_mem_nil
  replace c4 := b1 _ _ c4 List.not_mem_nil
  generalize ω₁.upd an (.list (vecOf n fun i => .int (lawNm st i))) = ω at *
  clear b1 hb han c2
  -- caps
  refine EsN.cons (ExN.of (Ex.asgCompC (c := cc) (by walk_at "mem") (Ev.comp (ls := [Str.ofString "u"]) (fr := [(Str.ofString "n", cn)]) (gl := []) (vs := upTo (n : Int)) (R := fun _ => True) (by kernel_rfl) (fun q hq => by rw [List.mem_singleton.mp hq]; simp) (fun _ h => nomatch h)
    (rng c1 (by walk_at "mem") (by walk_at "mem") fun a ha => zeros_loop (σ₀ := ω) (Sig.But.fresh Sig.But.refl ha) (N := n) (by omega) (by kernel_rfl) ((Sig.upd_ne (Sig.ne c1 ha)).trans c1)) ?_)))
  rintro ys ω₁ ac ⟨rc, rfl, hr⟩ hac
  have b1 : ω.But (ω₁.upd ac (.list (vecOf n fun i => .ref (rc i)))) [] := Sig.But.fresh hr.but hac
  refine ⟨_, b1 _ _ c3 List.not_mem_nil, SeqN.next ?_⟩
  have mc := hr.rowsM.mat hac
  have e1 : ∀ i, i < n → rc i ≠ d ∧ rc i ≠ it ∧ rc i ≠ an := fun i hi => by
    obtain ⟨_, _, x1, x2, _⟩ := hD
    have := hr.fresh i hi
    exact ⟨(Sig.ne x1 this).symm, (Sig.ne x2 this).symm, (Sig.ne ln this).symm⟩
  have e2 : ac ≠ d ∧ ac ≠ it := by
    obtain ⟨_, _, x1, x2, _⟩ := hD.but hr.but
    exact ⟨(Sig.ne x1 hac).symm, (Sig.ne x2 hac).symm⟩
  have ci : ∀ i j, i < n → j < n → rc i = rc j → i = j := hr.inj
  have rne : ∀ {a : Addr} {vs : List Val}, (ω₁.upd ac (.list (vecOf n fun i => .ref (rc i)))) a = some (.list vs) → a ≠ cc := fun e z => by rw [z, b1 _ _ c3 List.not_mem_nil] at e; cases e
  replace hT := (hT.but b1).cel (o' := some (.ref ac)) (b1 _ _ c3 List.not_mem_nil)
  replace hD := (hD.but b1).cel (o' := some (.ref ac)) (b1 _ _ c3 List.not_mem_nil)
  replace c1 : ((ω₁.upd ac (.list (vecOf n fun i => .ref (rc i)))).upd cc (.cel (some (.ref ac)))) cn = _ := (Sig.upd_ne n2).trans (b1 _ _ c1 List.not_mem_nil)
  replace c4 : ((ω₁.upd ac (.list (vecOf n fun i => .ref (rc i)))).upd cc (.cel (some (.ref ac)))) cf = _ := (Sig.upd_ne n6.symm).trans (b1 _ _ c4 List.not_mem_nil)
  replace ln : ((ω₁.upd ac (.list (vecOf n fun i => .ref (rc i)))).upd cc (.cel (some (.ref ac)))) an = _ := (Sig.upd_ne (rne (b1 _ _ ln List.not_mem_nil))).trans (b1 _ _ ln List.not_mem_nil)
  replace mc : MatAt ((ω₁.upd ac (.list (vecOf n fun i => .ref (rc i)))).upd cc (.cel (some (.ref ac)))) ac n rc _ := mc.keep fun b vs e => (Sig.upd_ne (rne e)).trans e
  replace c3 : ((ω₁.upd ac (.list (vecOf n fun i => .ref (rc i)))).upd cc (.cel (some (.ref ac)))) cc = some (.cel (some (.ref ac))) := Sig.upd_self
  generalize (ω₁.upd ac (.list (vecOf n fun i => .ref (rc i)))).upd cc (.cel (some (.ref ac))) = ω at *
  clear rne b1 hr hac
  -- flows
  refine EsN.cons (ExN.of (Ex.asgCompC (c := cf) (by walk_at "mem") (Ev.comp (ls := [Str.ofString "u"]) (fr := [(Str.ofString "n", cn)]) (gl := []) (vs := upTo (n : Int)) (R := fun _ => True) (by kernel_rfl) (fun q hq => by rw [List.mem_singleton.mp hq]; simp) (fun _ h => nomatch h)
    (rng c1 (by walk_at "mem") (by walk_at "mem") fun a ha => zeros_loop (σ₀ := ω) (Sig.But.fresh Sig.But.refl ha) (N := n) (by omega) (by kernel_rfl) ((Sig.upd_ne (Sig.ne c1 ha)).trans c1)) ?_)))
  rintro ys ω₁ af ⟨rf, rfl, hr⟩ haf
  have b1 : ω.But (ω₁.upd af (.list (vecOf n fun i => .ref (rf i)))) [] := Sig.But.fresh hr.but haf
  refine ⟨_, b1 _ _ c4 List.not_mem_nil, SeqN.next ?_⟩
  have mf := hr.rowsM.mat haf
  have f1 : ∀ i, i < n → rf i ≠ d ∧ rf i ≠ it ∧ rf i ≠ an ∧ rf i ≠ ac ∧ ∀ j, j < n → rf i ≠ rc j := fun i hi => by
    obtain ⟨_, _, x1, x2, _⟩ := hD
    have := hr.fresh i hi
    exact ⟨(Sig.ne x1 this).symm, (Sig.ne x2 this).symm, (Sig.ne ln this).symm, (Sig.ne mc.top this).symm, fun j hj => (Sig.ne (mc.row j hj) this).symm⟩
  have f2 : af ≠ d ∧ af ≠ it ∧ ∀ j, j < n → af ≠ rc j := by
    obtain ⟨_, _, x1, x2, _⟩ := hD.but hr.but
    exact ⟨(Sig.ne x1 haf).symm, (Sig.ne x2 haf).symm, fun j hj => (Sig.ne (hr.but _ _ (mc.row j hj) List.not_mem_nil) haf).symm⟩
  have rne : ∀ {a : Addr} {vs : List Val}, (ω₁.upd af (.list (vecOf n fun i => .ref (rf i)))) a = some (.list vs) → a ≠ cf := fun e z => by rw [z, b1 _ _ c4 List.not_mem_nil] at e; cases e
  have nn : ∀ {a : Addr}, a ≠ d → a ≠ it → a ∉ [d, it] := fun h1 h2 m => by
    simp only [List.mem_cons, List.not_mem_nil, or_false] at m
    exact m.elim h1 h2
  refine q n st d it an ac af rc rf _ hn2 hn5 hst' ⟨ci, hr.inj, fun i j hi hj => ((f1 j hj).2.2.2.2 i hi).symm, fun j hj => (f1 j hj).2.2.2.1.symm, fun j hj => f2.2.2 j hj, fun j hj => ⟨(e1 j hj).2.2.symm, (f1 j hj).2.2.1.symm⟩, fun j hj => ⟨(e1 j hj).1.symm, (f1 j hj).1.symm, (e1 j hj).2.1.symm, (f1 j hj).2.1.symm⟩, nn and'.1 and'.2, nn e2.1 e2.2, nn f2.1 f2.2.1⟩
    ⟨(hD.but b1).cel (b1 _ _ c4 List.not_mem_nil), (Sig.upd_ne (rne (b1 _ _ ln List.not_mem_nil))).trans (b1 _ _ ln List.not_mem_nil), mc.keep fun b vs e => (Sig.upd_ne (rne (b1 _ _ e List.not_mem_nil))).trans (b1 _ _ e List.not_mem_nil), mf.keep fun b vs e => (Sig.upd_ne (rne e)).trans e,
      (Sig.upd_ne n3).trans (b1 _ _ c1 List.not_mem_nil), (Sig.upd_ne n6).trans (b1 _ _ c3 List.not_mem_nil), Sig.upd_self, (hT.but b1).cel (b1 _ _ c4 List.not_mem_nil)⟩
end
/-- what the drawing of a network keeps -/
structure Drawn (c f : Nat → Nat → Int) : Prop where
  c0 : ∀ i j, 0 ≤ c i j
  c5 : ∀ i j, c i j ≤ 5
  cd : ∀ i, c i i = 0
  anti : ∀ i j, f i j = - f j i
  le : ∀ i j, f i j ≤ c i j
theorem Drawn.zero : Drawn (fun _ _ => 0) (fun _ _ => 0) := ⟨fun _ _ => Int.le_refl _, fun _ _ => by decide, fun _ => rfl, fun _ _ => rfl, fun _ _ => Int.le_refl _⟩
theorem Drawn.set {c f : Nat → Nat → Int} (h : Drawn c f) {i j : Nat} (hij : i ≠ j) {x y z : Int} (x0 : 0 ≤ x) (x5 : x ≤ 5) (y0 : 0 ≤ y) (y5 : y ≤ 5) (z0 : -y ≤ z) (z1 : z ≤ x) :
    Drawn (set2 (set2 c i j x) j i y) (set2 (set2 f i j z) j i (-z)) := by
  have e : ∀ {g : Nat → Nat → Int} {a b : Int} {k l : Nat}, set2 (set2 g i j a) j i b k l = if k = j ∧ l = i then b else if k = i ∧ l = j then a else g k l := fun {g a b k l} => rfl
  refine ⟨fun k l => ?_, fun k l => ?_, fun k => ?_, fun k l => ?_, fun k l => ?_⟩
  · rw [e]; split
    · exact y0
    · split
      · exact x0
      · exact h.c0 k l
  · rw [e]; split
    · exact y5
    · split
      · exact x5
      · exact h.c5 k l
  · rw [e, if_neg (by omega), if_neg (by omega)]; exact h.cd k
  · rw [e, e]
    by_cases h1 : k = j ∧ l = i
    · rw [if_pos h1, if_neg (by omega), if_pos (by omega)]
    · by_cases h2 : k = i ∧ l = j
      · rw [if_neg h1, if_pos h2, if_pos (by omega)]; omega
      · rw [if_neg h1, if_neg h2, if_neg (by omega), if_neg (by omega)]; exact h.anti k l
  · rw [e, e]
    by_cases h1 : k = j ∧ l = i
    · rw [if_pos h1, if_pos h1]; omega
    · by_cases h2 : k = i ∧ l = j
      · rw [if_neg h1, if_neg h1, if_pos h2, if_pos h2]; exact z1
      · rw [if_neg h1, if_neg h1, if_neg h2, if_neg h2]; exact h.le k l
section
variable {B : Bd} {φ : Phi} {A : Around} {σ : Sig} {E : Value → Shared → Prop}
theorem law_B {env : Env} {sa cn cst cc cf : Addr} {n : Nat} {nm : Nat → Int} {d it an ac af : Addr} {rc rf : Nat → Addr} {Q : Fl → LM → Sig → Prop} (hA : AOk A 12) (hh : A.handled = none) (hE : PassesOwn (M0 B.w) A env E)
    (N : LawN n d it an ac af rc rf) (hn5 : n ≤ 5) (h : LawB σ n nm d it an ac af cn cc cf rc rf (fun _ _ => 0) (fun _ _ => 0))
    (q : ∀ (c f : Nat → Nat → Int) (τ : Sig) (o1 o2 : Option Val), Drawn c f → LawB τ n nm d it an ac af cn cc cf rc rf c f →
      EsN B φ A ⟨env, lawC cn cst cc cf, lawG⟩ (lawM (some (.ref sa)) (some (.ref d)) (some (.ref an)) o1 o2 none none none none none none none none none none none) (lawBody.drop 6) τ Q E) :
    EsN B φ A ⟨env, lawC cn cst cc cf, lawG⟩ (lawM (some (.ref sa)) (some (.ref d)) (some (.ref an)) none none none none none none none none none none none none none) (lawBody.drop 5) σ Q E := by
  refine EsN.cons (ExN.of (Ex.for (vs := upTo n) (R := fun _ => True) (fun i m' τ => ∃ c f o1 o2, m' = lawM (some (.ref sa)) (some (.ref d)) (some (.ref an)) o1 o2 none none none none none none none none none none none ∧
      Drawn c f ∧ LawB τ n nm d it an ac af cn cc cf rc rf c f) hE ?_ (fun _ _ _ _ => trivial) ?_ ?_))
  · refine Ev.callG (by walk_at "mem") (El.cons (Ev.cel (by walk_at "mem") h.hn (El.nil (Ek.nil ⟨Kp.ty, Cl.range fun a ha => It.range Sig.upd_self (by omega) (by omega) ⟨_, _, _, _, rfl, Drawn.zero, h.but (Sig.But.fresh Sig.But.refl ha)⟩⟩))))
  · rintro i y m' τ it' c' hc' hy ⟨c, f, o1, o2, rfl, hD, hB⟩
    obtain ⟨rfl, hi⟩ := upTo_get hy
    have hi' : i < n := by omega
    refine ⟨_, by walk_at "sto", ?_⟩
    refine Es.cons (Ex.for (vs := upTo i) (R := fun _ => True) (fun j m' τ => ∃ c f o2, m' = lawM (some (.ref sa)) (some (.ref d)) (some (.ref an)) (some (.int i)) o2 none none none none none none none none none none none ∧
      Drawn c f ∧ LawB τ n nm d it an ac af cn cc cf rc rf c f) hE ?_ (fun _ _ _ _ => trivial) ?_ ?_)
    · exact Ev.callG (by walk_at "mem") (El.cons (Ev.loc (by walk_at "mem") (El.nil (Ek.nil ⟨Kp.ty, Cl.range fun a ha => It.range Sig.upd_self (by omega) (by omega) ⟨_, _, _, rfl, hD, hB.but (Sig.But.fresh Sig.But.refl ha)⟩⟩))))
    · rintro j y m' τ it'' c'' hc'' hy ⟨c, f, o2, rfl, hD, hB⟩
      obtain ⟨rfl, hj⟩ := upTo_get hy
      have hji : j < i := by omega
      have hj' : j < n := by omega
      refine ⟨_, by walk_at "sto", ?_⟩
      refine Es.cons (Ex.ifs (Bt.cmp (Ev.callG (by walk_at "mem") (El.cons (Ev.loc (by walk_at "mem") (El.cons (Ev.int (El.nil (Ek.nil ⟨Kp.kin (by kernel_rfl), take' (hA.le (by decide)) hB.draw (by decide) fun r τ₁ hr hD1 b1 => Ev.int (Cm.ne (Tr.bool ⟨fun _ => ?_, fun _ => Es.nil (Seq.next (Es.nil ⟨c, f, _, rfl, hD, hB.take N hD1 b1⟩))⟩))⟩)))))))))
      replace hB := hB.take N hD1 b1
      clear b1 hD1 hr
      -- the two capacities
      refine Es.cons (Ex.asgPlaces (fun _ => trivial) (Ev.tup (El.cons (Ev.callG (by walk_at "mem") (El.cons (Ev.loc (by walk_at "mem") (El.cons (Ev.int (El.nil (Ek.nil ⟨Kp.kin (by kernel_rfl), take' (hA.le (by decide)) hB.draw (by decide) fun x τ₂ hx hD2 b2 => El.cons (Ev.callG (by walk_at "mem") (El.cons (Ev.loc (by walk_at "mem") (El.cons (Ev.int (El.nil (Ek.nil ⟨Kp.kin (by kernel_rfl), take' (hA.le (by decide)) hD2 (by decide) fun y τ₃ hy hD3 b3 => El.nil ⟨by simp, fun t ht => ?_⟩⟩)))))))⟩))))))))))
      replace hB := (hB.take N hD2 b2).take N hD3 b3
      have b4 : τ₃.But (τ₃.upd t (.tup [.int (x : Int), .int (y : Int)])) [] := Sig.But.fresh Sig.But.refl ht
      replace hB := hB.but b4
      refine As.tup2 hh Sig.upd_self ?_
      generalize τ₃.upd t (.tup [.int (x : Int), .int (y : Int)]) = υ at *
      clear b4 ht hD3 b3 hD2 b2
      refine As.sub (Ev.sub (Ev.cel (by walk_at "mem") hB.hc (Ev.loc (by walk_at "mem") (Su.vec hB.mc.top hi' (by omega) (Ev.loc (by walk_at "mem") (Si.list (hB.mc.row i hi') (by omega) (by omega) (by rw [vecOf_len]; omega) ?_))))))
      rw [Int.toNat_natCast]
      replace hB := hB.setC N hi' hj' (x := x)
      refine As.sub (Ev.sub (Ev.cel (by walk_at "mem") hB.hc (Ev.loc (by walk_at "mem") (Su.vec hB.mc.top hj' (by omega) (Ev.loc (by walk_at "mem") (Si.list (hB.mc.row j hj') (by omega) (by omega) (by rw [vecOf_len]; omega) (Seq.next ?_)))))))
      rw [Int.toNat_natCast]
      replace hB := hB.setC N hj' hi' (x := y)
      generalize (υ.upd (rc i) _).upd (rc j) _ = υ at hB ⊢
      -- the flow
      have cij : set2 (set2 c i j (x : Int)) j i (y : Int) i j = x := by rw [set2_ne (by omega), set2_self]
      have cji : set2 (set2 c i j (x : Int)) j i (y : Int) j i = y := set2_self
      refine Es.cons (Ex.asgSub (Ev.bin (Ev.callG (by walk_at "mem") (El.cons (Ev.loc (by walk_at "mem") (El.cons (Ev.bin (Ev.bin (Ev.mat hB.mc (Ev.cel (by walk_at "mem") hB.hc) (Ev.loc (by walk_at "mem")) (Ev.loc (by walk_at "mem")) hi' hj' (by omega) (Ev.mat hB.mc (Ev.cel (by walk_at "mem") hB.hc) (Ev.loc (by walk_at "mem")) (Ev.loc (by walk_at "mem")) hj' hi' (by omega) (Bn.add (Ev.int (Bn.add (El.nil (Ek.nil ⟨Kp.kin (by kernel_rfl), take' (hA.le (by decide)) hB.draw (by rw [cij, cji]; omega) fun r τ₁ hr hD1 b1 => ?_⟩)))))))))))))))
      rw [cij, cji] at hr
      replace hB := hB.take N hD1 b1
      clear hD1 b1
      refine Ev.mat hB.mc (Ev.cel (by walk_at "mem") hB.hc) (Ev.loc (by walk_at "mem")) (Ev.loc (by walk_at "mem")) hj' hi' (by omega) (Bn.sub ?_)
      rw [cji]
      refine Ev.sub (Ev.cel (by walk_at "mem") hB.hf (Ev.loc (by walk_at "mem") (Su.vec hB.mf.top hi' (by omega) (Ev.loc (by walk_at "mem") (Si.list (hB.mf.row i hi') (by omega) (by omega) (by rw [vecOf_len]; omega) (Seq.next ?_))))))
      rw [Int.toNat_natCast]
      replace hB := hB.setF N hi' hj' (x := (r : Int) - y)
      generalize τ₁.upd (rf i) _ = υ at hB ⊢
      -- the other way
      refine Es.cons (Ex.asgSub (Ev.un (Ev.mat hB.mf (Ev.cel (by walk_at "mem") hB.hf) (Ev.loc (by walk_at "mem")) (Ev.loc (by walk_at "mem")) hi' hj' (by omega) (Un.neg ?_))))
      rw [set2_self]
      refine Ev.sub (Ev.cel (by walk_at "mem") hB.hf (Ev.loc (by walk_at "mem") (Su.vec hB.mf.top hj' (by omega) (Ev.loc (by walk_at "mem") (Si.list (hB.mf.row j hj') (by omega) (by omega) (by rw [vecOf_len]; omega) (Seq.next ?_))))))
      rw [Int.toNat_natCast]
      replace hB := hB.setF N hj' hi' (x := -((r : Int) - y))
      refine Es.nil (Seq.next (Es.nil ⟨_, _, _, rfl, hD.set (x := x) (y := y) (z := (r : Int) - y) (by omega) (by omega) (by omega) (by omega) (by omega) (by omega) (by omega), hB⟩))
    · rintro m' τ ⟨c, f, o2, rfl, hD, hB⟩
      exact Seq.next (Es.nil ⟨_, _, _, _, rfl, hD, hB⟩)
  · rintro m' τ ⟨c, f, o1, o2, rfl, hD, hB⟩
    exact SeqN.next (q c f τ o1 o2 hD hB)
end
theorem next_end {s n r : Nat} (hs : s < n) (hr : r + 1 < n) : ((s : Int) + 1 + r).fmod n = ((s + 1 + r) % n : Nat) ∧ (s + 1 + r) % n < n ∧ s ≠ (s + 1 + r) % n := by
  refine ⟨?_, Nat.mod_lt _ (by omega), ?_⟩
  · rw [Int.fmod_eq_emod_of_nonneg _ (by omega)]; push_cast; rfl
  · by_cases h : s + 1 + r < n
    · rw [Nat.mod_eq_of_lt h]; omega
    · rw [Nat.mod_eq_sub_mod (by omega), Nat.mod_eq_of_lt (by omega)]; omega
section
variable {B : Bd} {φ : Phi} {A : Around} {σ : Sig} {E : Value → Shared → Prop}
theorem law_C {env : Env} {sa cn cst cc cf : Addr} {n : Nat} {nm : Nat → Int} {d it an ac af : Addr} {rc rf : Nat → Addr} {c f : Nat → Nat → Int} {o1 o2 : Option Val} {Q : Fl → LM → Sig → Prop} (hA : AOk A 12)
    (N : LawN n d it an ac af rc rf) (hn2 : 2 ≤ n) (hB : LawB σ n nm d it an ac af cn cc cf rc rf c f)
    (q : ∀ (s t : Nat) (k C : Int) (τ : Sig), s < n → t < n → s ≠ t → LawB τ n nm d it an ac af cn cc cf rc rf c f →
      EsN B φ A ⟨env, lawC cn cst cc cf, lawG⟩ (lawM (some (.ref sa)) (some (.ref d)) (some (.ref an)) o1 o2 (some (.int s)) (some (.int t)) (some (.int k)) (some (.int C)) none none none none none none none) (lawBody.drop 10) τ Q E) :
    EsN B φ A ⟨env, lawC cn cst cc cf, lawG⟩ (lawM (some (.ref sa)) (some (.ref d)) (some (.ref an)) o1 o2 none none none none none none none none none none none) (lawBody.drop 6) σ Q E := by
  refine EsN.cons (ExN.of (Ex.asg (Ev.callG (by walk_at "mem") (El.cons (Ev.loc (by walk_at "mem") (El.cons (Ev.cel (by walk_at "mem") hB.hn (El.nil (Ek.nil ⟨Kp.kin (by kernel_rfl), take' (hA.le (by decide)) hB.draw (by omega) fun s τ₁ hs hD1 b1 => ?_⟩)))))))))
  walk_at "stok"
  refine SeqN.next ?_
  replace hB := hB.take N hD1 b1
  clear hD1 b1
  refine EsN.cons (ExN.of (Ex.asg (Ev.bin (Ev.bin (Ev.bin (Ev.loc (by walk_at "mem") (Ev.int (Bn.add (Ev.callG (by walk_at "mem") (El.cons (Ev.loc (by walk_at "mem") (El.cons (Ev.bin (Ev.cel (by walk_at "mem") hB.hn (Ev.int (Bn.sub (El.nil (Ek.nil ⟨Kp.kin (by kernel_rfl), take' (hA.le (by decide)) hB.draw (by omega) fun r τ₂ hr hD2 b2 => Bn.add (Ev.cel (by walk_at "mem") (hB.take N hD2 b2).hn (Bn.mod (by omega) ?_))⟩))))))))))))))))))
  replace hB := hB.take N hD2 b2
  clear hD2 b2
  obtain ⟨e1, ht, hst⟩ := next_end (s := s) (n := n) (r := r) (by omega) (by omega)
  rw [e1]
  generalize (s + 1 + r) % n = t at ht hst ⊢
  walk_at "stok"
  refine SeqN.next ?_
  refine EsN.cons (ExN.of (Ex.asg (Ev.callG (by walk_at "mem") (El.cons (Ev.loc (by walk_at "mem") (El.cons (Ev.int (El.nil (Ek.nil ⟨Kp.kin (by kernel_rfl), take' (hA.le (by decide)) hB.draw (by decide) fun k τ₃ hk hD3 b3 => ?_⟩)))))))))
  walk_at "stok"
  refine SeqN.next ?_
  replace hB := hB.take N hD3 b3
  clear hD3 b3
  have fin : ∀ (C : Int) (τ : Sig), LawB τ n nm d it an ac af cn cc cf rc rf c f → ∃ m', Sto (lawM (some (.ref sa)) (some (.ref d)) (some (.ref an)) o1 o2 (some (.int s)) (some (.int t)) (some (.int k)) none none none none none none none none) (Str.ofString "cutoff") (.int C) m' ∧ 
      SeqN B φ A ⟨env, lawC cn cst cc cf, lawG⟩ (lawBody.drop 10) Q E .next m' τ := fun C τ hB => by
    refine ⟨lawM (some (.ref sa)) (some (.ref d)) (some (.ref an)) o1 o2 (some (.int s)) (some (.int t)) (some (.int k)) (some (.int C)) none none none none none none none, by walk_at "sto", ?_⟩
    exact SeqN.next (q s t k C τ (by omega) ht hst hB)
  refine EsN.cons (ExN.of (Ex.asg (Ev.ife (Bt.cmp (Ev.loc (by walk_at "mem") (Ev.int (Cm.eq (Tr.bool ⟨fun _ => ?_, fun _ => ?_⟩))))))))
  · exact Ev.bin (Ev.int (Ev.int (Bn.pow (by decide) (by decide +kernel) (fin _ _ hB))))
  · refine Ev.ife (Bt.cmp (Ev.loc (by walk_at "mem") (Ev.int (Cm.eq (Tr.bool ⟨fun _ => ?_, fun _ => ?_⟩)))))
    · refine Ev.bin (Ev.int (Ev.callG (by walk_at "mem") (El.cons (Ev.loc (by walk_at "mem") (El.cons (Ev.int (El.nil (Ek.nil ⟨Kp.kin (by kernel_rfl), take' (hA.le (by decide)) hB.draw (by decide) fun r τ₄ hr hD4 b4 => Bn.add (fin _ _ (hB.take N hD4 b4))⟩))))))))
    · refine Ev.un (Ev.callG (by walk_at "mem") (El.cons (Ev.loc (by walk_at "mem") (El.cons (Ev.int (El.nil (Ek.nil ⟨Kp.kin (by kernel_rfl), take' (hA.le (by decide)) hB.draw (by decide) fun r τ₄ hr hD4 b4 => Un.neg (fin _ _ (hB.take N hD4 b4))⟩)))))))
end
section
variable {B : Bd} {φ : Phi} {A : Around} {σ : Sig} {E : Value → Shared → Prop}
theorem Drawn.big {c f : Nat → Nat → Int} (h : Drawn c f) (i j : Nat) : -5 ≤ f i j ∧ f i j ≤ 5 ∧ 0 ≤ c i j - f i j ∧ c i j - f i j ≤ 10 := by
  have h1 := h.le i j
  have h2 := h.le j i
  have h3 := h.anti i j
  have h4 := h.c5 i j
  have h5 := h.c5 j i
  omega
/-- the network stands; what is least is known; what is widest -/
theorem law_D {env : Env} {sa cn cst cc cf : Addr} {n : Nat} {nm : Nat → Int} {d it an ac af : Addr} {rc rf : Nat → Addr} {c f : Nat → Nat → Int} {o1 o2 : Option Val} {s t : Nat} {k C : Int} {Q : Fl → LM → Sig → Prop} (hA : AOk A 12) (hh : A.handled = none)
    (hn2 : 2 ≤ n) (hn5 : n ≤ 5) (hs : s < n) (ht : t < n) (inj : ∀ i j, i < n → j < n → nm i = nm j → i = j) (hD : Drawn c f) (hB : LawB σ n nm d it an ac af cn cc cf rc rf c f)
    (q : ∀ (G : Net) (most : Val) (W : Int) (τ : Sig), G.n = n → G.nm = nm → G.At τ c f [(Str.ofString "inf", .int 1000)] [] false → (∀ i j, i < n → (j ∈ G.S i ↔ (i ≠ j ∧ j < n ∧ (0 < c i j ∨ 0 < c j i)))) →
      Best n (fun i j => c i j - f i j) s t (2 ^ n) most → (∀ i j, i < n → j < n → c i j + c j i ≤ W) → LawB τ n nm d it an ac af cn cc cf rc rf c f →
      EsN B φ A ⟨env, lawC cn cst cc cf, lawG⟩ (lawM (some (.ref sa)) (some (.ref d)) (some (.ref an)) o1 o2 (some (.int s)) (some (.int t)) (some (.int k)) (some (.int C)) (some (.ref G.x)) (some most) (some (.int W)) none none none none) (lawBody.drop 13) τ Q E) :
    EsN B φ A ⟨env, lawC cn cst cc cf, lawG⟩ (lawM (some (.ref sa)) (some (.ref d)) (some (.ref an)) o1 o2 (some (.int s)) (some (.int t)) (some (.int k)) (some (.int C)) none none none none none none none) (lawBody.drop 10) σ Q E := by
  have rng : ∀ {υ : Sig} {m' : LM} {ψ : Phi} {A'' : Around} {env' : Env} {cells : List (Str × Addr)} {gl : List (Str × Value)} {K : Sig → Prop} {E : Value → Shared → Prop} {p₁ p₂ p₃ : Pos}, υ cn = some (.cel (some (.int (n : Int)))) → (Str.ofString "n", cn) ∈ cells → (Str.ofString "range", Value.type "range") ∈ gl → (∀ a, υ a = none → K (υ.upd a (rangeC 0 (n : Int) 1))) →
      Ev B ψ A'' ⟨env', cells, gl⟩ m' (.Call (.Name (Str.ofString "range") p₁) [.Name (Str.ofString "n") p₂] [] p₃) υ (fun v σ₁ => It B ((env'.locals, .fr ⟨env', cells, gl⟩ m') :: ψ) A'' v σ₁ (upTo (n : Int)) (fun _ => True) K) E := fun {υ m' ψ A'' env' cells gl K E p₁ p₂ p₃} b h1 h2 h3 =>
    Ev.callG h2 (El.cons (Ev.cel h1 b (El.nil (Ek.nil ⟨Kp.ty, Cl.range fun a ha => It.range Sig.upd_self (by omega) (by omega) (h3 a ha)⟩))))
  -- the network
  refine EsN.cons (ExN.of (Ex.asg (Ev.callG (by walk_at "mem") (El.cons (Ev.loc (by walk_at "mem") (El.cons (Ev.cel (by walk_at "mem") hB.hc (El.cons (Ev.cel (by walk_at "mem") hB.hf (El.cons (Ev.int (El.nil (Ek.nil ⟨Kp.kin (by kernel_rfl), network_spec (hA.le (by decide)) hh (by omega) inj hB.names hB.mc hB.mf fun G τ gn gm hN hS b1 => ?_⟩)))))))))))))
  walk_at "stok"
  refine SeqN.next ?_
  replace hB := hB.but b1
  clear b1
  -- the least
  refine EsN.cons (ExN.of (Ex.asg (Ev.callG (by walk_at "mem") (El.cons (Ev.cel (by walk_at "mem") hB.hn (El.cons (Ev.comp (ls := []) (fr := [(Str.ofString "caps", cc), (Str.ofString "flows", cf), (Str.ofString "n", cn)]) (gl := [(Str.ofString "range", .type "range")]) (vs := upTo n) (R := fun _ => True)
    (P := fun ys υ => ∃ r, ys = (vecOf n fun i => .ref (r i)) ∧ RowsM τ υ n n r (fun i j => c i j - f i j)) (by kernel_rfl) (by intro p hp; simp only [List.mem_cons, List.not_mem_nil, or_false] at hp ⊢; rcases hp with rfl | rfl | rfl <;> simp) (by walk_at "gl") ?_ ?_)))))))
  · refine rng hB.hn (by walk_at "mem") (by walk_at "mem") fun a ha => mat_loop (σ₀ := τ) (Sig.But.fresh Sig.But.refl ha) (n := n) (fun i j => c i j - f i j) (by omega) (by kernel_rfl) ?_
    intro a' i υ φ' env' E'' hi bu hu
    refine Ev.comp (ls := [Str.ofString "v"]) (fr := [(Str.ofString "caps", cc), (Str.ofString "flows", cf), (Str.ofString "u", a')]) (gl := []) (vs := upTo (n : Int)) (R := fun _ => True) (P := fun ys ω => ys = (vecOf n fun j => .int (c i j - f i j)) ∧ υ.But ω []) (by kernel_rfl) (by intro p hp; simp only [List.mem_cons, List.not_mem_nil, or_false] at hp ⊢; rcases hp with rfl | rfl | rfl <;> simp) (fun _ h => nomatch h) ?_ ?_
    · refine rng (hB.but bu).hn (by walk_at "mem") (by walk_at "mem") fun b hb => ints_loop (σ₀ := υ) (Sig.But.fresh Sig.But.refl hb) (fun j => c i j - f i j) (by omega) (by kernel_rfl) ?_
      intro j ω φ₂ env₂ E₂ hj bw
      have hB' := (hB.but bu).but bw
      have w1 := bw _ _ hu List.not_mem_nil
      exact Ev.bin (Ev.mat hB'.mc (Ev.cel (by walk_at "mem") hB'.hc) (Ev.cel (by walk_at "mem") w1) (Ev.loc (by walk_at "mem")) hi hj (by omega) (Ev.mat hB'.mf (Ev.cel (by walk_at "mem") hB'.hf) (Ev.cel (by walk_at "mem") w1) (Ev.loc (by walk_at "mem")) hi hj (by omega) (Bn.sub ⟨rfl, Sig.But.refl⟩)))
    · rintro ys ω t₁ ⟨rfl, bw⟩ ht₁
      exact ⟨t₁, rfl, none_of bw ht₁, Sig.upd_self, Sig.But.fresh bw ht₁⟩
  rintro ys τ₁ ar ⟨r, rfl, hr⟩ har
  have b1 : τ.But (τ₁.upd ar (.list (vecOf n fun i => .ref (r i)))) [] := Sig.But.fresh hr.but har
  have mr := hr.mat har
  replace hB := hB.but b1
  replace hN := hN.keep0 b1
  generalize τ₁.upd ar (.list (vecOf n fun i => .ref (r i))) = ω at *
  clear b1 hr har
  refine El.cons (Ev.loc (by walk_at "mem") (El.cons (Ev.loc (by walk_at "mem") (El.nil (Ek.nil ⟨Kp.kin (by kernel_rfl), least_spec (hA.le (by decide)) (by omega) hs ht mr (fun i j => by have := hD.big i j; omega) fun most τ₂ hbest b2 => ?_⟩)))))
  walk_at "stok"
  refine SeqN.next ?_
  replace hB := hB.but b2
  replace hN := hN.keep0 b2
  clear b2 mr
  -- the widest
  refine EsN.cons (ExN.of (Ex.asg (Ev.callG (by walk_at "mem") (El.cons (Ev.comp (ls := [Str.ofString "u", Str.ofString "v"]) (fr := [(Str.ofString "caps", cc), (Str.ofString "n", cn)]) (gl := [(Str.ofString "range", .type "range")]) (vs := upTo n) (R := fun _ => True)
    (P := fun ys υ => ∃ ns : List Int, ys = ns.map Val.int ∧ (∀ i j, i < n → j < n → c i j + c j i ∈ ns) ∧ τ₂.But υ []) (by kernel_rfl) (by intro p hp; simp only [List.mem_cons, List.not_mem_nil, or_false] at hp ⊢; rcases hp with rfl | rfl <;> simp) (by walk_at "gl") ?_ ?_)))))
  · refine rng hB.hn (by walk_at "mem") (by walk_at "mem") fun a ha => ?_
    refine CompLoop.two (o := Option.none) (vs1 := upTo n) (R1 := fun _ => True) (fun i' j' ys υ => (i' < n ∨ (i' = n ∧ j' = 0)) ∧ j' ≤ n ∧ ∃ ns : List Int, ys = ns.map Val.int ∧ ns.length ≤ 5 * i' + j' ∧ (∀ i j, i < n → j < n → (i < i' ∨ (i = i' ∧ j < j')) → c i j + c j i ∈ ns) ∧ τ₂.But υ []) rfl (fun _ _ _ _ => trivial) (fun _ _ _ _ _ => trivial) ?_ ?_ ?_ ?_ ?_ ?_
    · rintro i' j' ys υ ⟨h1, h2, ns, rfl, h3, _⟩
      rw [List.length_map]; omega
    · exact ⟨by omega, Nat.zero_le _, [], rfl, Nat.le_refl _, fun i j _ _ h => by omega, Sig.But.fresh Sig.But.refl ha⟩
    · rintro i' y ys υ φ' env' w E'' hy ⟨h1, h2, ns, rfl, h3, h4, bu⟩
      exact rng (hB.but bu).hn (by walk_at "mem") (by walk_at "mem") fun b hb => ⟨h1, h2, ns, rfl, h3, h4, Sig.But.fresh bu hb⟩
    · rintro i' j' y z ys υ φ' env' E'' hy hz ⟨h1, h2, ns, rfl, h3, h4, bu⟩
      obtain ⟨rfl, hi⟩ := upTo_get hy
      obtain ⟨rfl, hj⟩ := upTo_get hz
      have hi2 : i' < n := by omega
      have hj2 : j' < n := by omega
      have hB' := hB.but bu
      refine ⟨fun _ => ?_, fun e => (nomatch e)⟩
      refine Ev.bin (Ev.mat hB'.mc (Ev.cel (by walk_at "mem") hB'.hc) (Ev.loc (by walk_at "mem")) (Ev.loc (by walk_at "mem")) hi2 hj2 (by omega) (Ev.mat hB'.mc (Ev.cel (by walk_at "mem") hB'.hc) (Ev.loc (by walk_at "mem")) (Ev.loc (by walk_at "mem")) hj2 hi2 (by omega) (Bn.add ⟨.inl hi2, hj2, ns ++ [c i' j' + c j' i'], by rw [List.map_append]; rfl, by rw [List.length_append, List.length_singleton]; omega, fun i j hi hj h => ?_, bu⟩)))
      by_cases e : i = i' ∧ j = j'
      · rw [e.1, e.2]; exact List.mem_append_right _ (.head _)
      · exact List.mem_append_left _ (h4 i j hi hj (by omega))
    · rintro i' ys υ ⟨h1, h2, ns, rfl, h3, h4, bu⟩
      rw [upTo_len, Int.toNat_natCast] at h1 h2 h3 h4
      exact ⟨by omega, Nat.zero_le _, ns, rfl, by omega, fun i j hi hj h => h4 i j hi hj (by omega), bu⟩
    · rintro ys υ ⟨h1, h2, ns, rfl, h3, h4, bu⟩
      rw [upTo_len, Int.toNat_natCast] at h4
      exact ⟨ns, rfl, fun i j hi hj => h4 i j hi hj (.inl hi), bu⟩
  rintro ys τ₃ aw ⟨ns, rfl, h4, bu⟩ haw
  have b3 : τ₂.But (τ₃.upd aw (.list (ns.map Val.int))) [] := Sig.But.fresh bu haw
  refine El.nil (Ek.nil ⟨Kp.bi, Cl.maxOf Sig.upd_self (List.length_pos_of_mem (h4 0 0 (by omega) (by omega))) fun W _ hW => ?_⟩)
  walk_at "stok"
  exact SeqN.next (q G most W _ gn gm (hN.keep0 b3) hS hbest (fun i j hi hj => hW _ (h4 i j hi hj)) (hB.but b3))
end
/-- lists and cells of names -/
noncomputable def Plain (x : Cell) : Prop := (∃ l, x = .list l) ∨ ∃ o, x = .cel o
theorem Plain.list {l : List Val} : Plain (.list l) := .inl ⟨_, rfl⟩
theorem Plain.cel {o : Option Val} : Plain (.cel o) := .inr ⟨_, rfl⟩
theorem Net.At.plain {G : Net} {σ : Sig} {c f : Nat → Nat → Int} {gr kvs : List (Str × Val)} {out : Bool} (h : G.At σ c f gr kvs out) (hT : CoreTab σ) {a : Addr} {x : Cell} (e : σ a = some x) (hx : Plain x) : a ∉ G.d :: 695 :: G.g :: G.edges := by
  have n : (∀ l o, x ≠ .dD l o) ∧ (∀ o, x ≠ .obj o) ∧ ∀ l, x ≠ .dS l := by
    rcases hx with ⟨_, rfl⟩ | ⟨_, rfl⟩ <;> exact ⟨(by intros; exact fun e => nomatch e), (by intros; exact fun e => nomatch e), (by intros; exact fun e => nomatch e)⟩
  intro m
  rcases List.mem_cons.mp m with rfl | m
  · rw [h.hd] at e; cases e; exact n.1 _ _ rfl
  rcases List.mem_cons.mp m with rfl | m
  · rcases hT with w | ⟨_, _, w, _⟩ <;> (rw [w] at e; cases e; exact n.2.1 _ rfl)
  rcases List.mem_cons.mp m with rfl | m
  · rw [h.hg] at e; cases e; exact n.2.2 _ rfl
  · obtain ⟨_, e'⟩ := h.edge_is m
    rw [e] at e'; cases e'; exact n.2.2 _ rfl
/-- plain cells stay -/
noncomputable def Sig.Pl (σ τ : Sig) : Prop := ∀ a x, σ a = some x → Plain x → τ a = some x
theorem Sig.But.pl {σ τ : Sig} (b : σ.But τ []) : σ.Pl τ := fun a x e _ => b a x e List.not_mem_nil
theorem MatAt.pl {σ τ : Sig} {a : Addr} {n : Nat} {r : Nat → Addr} {M : Nat → Nat → Int} (h : MatAt σ a n r M) (k : σ.Pl τ) : MatAt τ a n r M := h.keep fun b vs e => k _ _ e .list
theorem LawB.pl {τ τ' : Sig} {n : Nat} {nm : Nat → Int} {d it an ac af cn cc cf : Addr} {rc rf : Nat → Addr} {c f : Nat → Nat → Int} (h : LawB τ n nm d it an ac af cn cc cf rc rf c f) (k : τ.Pl τ') (hT : CoreTab τ') : LawB τ' n nm d it an ac af cn cc cf rc rf c f :=
  ⟨h.draw.keep fun b vs e _ => k _ _ e .list, k _ _ h.names .list, h.mc.pl k, h.mf.pl k, k _ _ h.hn .cel, k _ _ h.hc .cel, k _ _ h.hf .cel, hT⟩
theorem Net.AtC.pl {G : Net} {σ τ : Sig} {c f : Nat → Nat → Int} {gr : List (Str × Val)} (h : G.AtC σ c f gr) (hT : CoreTab σ) {l : List Addr} (b : σ.But τ l) (hl : ∀ a ∈ l, a ∈ G.d :: 695 :: G.g :: G.edges) : σ.Pl τ :=
  let ⟨_, _, h⟩ := h; fun a x e p => b a x e fun m => h.plain hT e p (hl a m)
theorem nT {p : Prop} [Decidable p] {P P' : Prop} (hp : p) (h : P') : ((!decide p) = true → P) ∧ ((!decide p) = false → P') := ⟨fun z => (by rw [decide_eq_true hp] at z; cases z), fun _ => h⟩
theorem dF {p : Prop} [Decidable p] {P P' : Prop} (n : ¬ p) (h : P') : (decide p = true → P) ∧ (decide p = false → P') := ⟨fun z => absurd (of_decide_eq_true z) n, fun _ => h⟩
section
variable {B : Bd} {φ : Phi} {A : Around} {σ : Sig} {E : Value → Shared → Prop}
/-- the first call and what is asked of it -/
theorem law_E {env : Env} {sa cn cst cc cf : Addr} {G : Net} {d it an ac af : Addr} {rc rf : Nat → Addr} {c f : Nat → Nat → Int} {o1 o2 : Option Val} {s t : Nat} {k C W : Int} {most : Val} {Q : Fl → LM → Sig → Prop} (hA : AOk A 12) (hh : A.handled = none)
    (hn2 : 2 ≤ G.n) (hn5 : G.n ≤ 5) (hs : s < G.n) (ht : t < G.n) (hst : s ≠ t) (hD : Drawn c f) (hB : LawB σ G.n G.nm d it an ac af cn cc cf rc rf c f)
    (hN : G.At σ c f [(Str.ofString "inf", .int 1000)] [] false) (hS : ∀ i j, i < G.n → (j ∈ G.S i ↔ (i ≠ j ∧ j < G.n ∧ (0 < c i j ∨ 0 < c j i)))) (hbest : Best G.n (fun i j => c i j - f i j) s t (2 ^ G.n) most) (hW : ∀ i j, i < G.n → j < G.n → c i j + c j i ≤ W)
    (q : ∀ (f₁ : Nat → Nat → Int) (told : Int) (aw : Addr) (rw : Nat → Addr) (τ : Sig), FlowG G c f s t f₁ told → G.AtC τ c f₁ [(Str.ofString "inf", .int 1000)] → MatAt τ aw G.n rw f₁ → LawB τ G.n G.nm d it an ac af cn cc cf rc rf c f →
      EsN B φ A ⟨env, lawC cn cst cc cf, lawG⟩ (lawM (some (.ref sa)) (some (.ref d)) (some (.ref an)) o1 o2 (some (.int s)) (some (.int t)) (some (.int k)) (some (.int C)) (some (.ref G.x)) (some most) (some (.int W)) (some (.int told)) (some (.ref aw)) none none) (lawBody.drop 17) τ Q E) :
    EsN B φ A ⟨env, lawC cn cst cc cf, lawG⟩ (lawM (some (.ref sa)) (some (.ref d)) (some (.ref an)) o1 o2 (some (.int s)) (some (.int t)) (some (.int k)) (some (.int C)) (some (.ref G.x)) (some most) (some (.int W)) none none none none) (lawBody.drop 13) σ Q E := by
  have grid : Grid G c := ⟨hN.ok, hS, fun i j _ _ => hD.c0 i j⟩
  have noS : ∀ i j, i < G.n → j < G.n → j ∉ G.S i → c i j ≤ 0 ∧ f i j = 0 := fun i j hi hj hn => by
    have h1 := hD.le i j
    have h2 := hD.le j i
    have h3 := hD.anti i j
    by_cases e : i = j
    · subst e; have := hD.cd i; omega
    · have : ¬ (0 < c i j ∨ 0 < c j i) := fun z => hn ((hS i j hi).mpr ⟨e, hj, z⟩)
      omega
  have W0 : 0 ≤ W := by have := hW s s hs hs; have := hD.c0 s s; omega
  have J : Job B G c s t 1000 (.int C) (fun i => decide (i < C)) (fun f₁ k => FlowG G c f s t f₁ k ∧ ((C ≤ 0 → f₁ = f ∧ k = 0) ∧ (0 < C → k < C + W))) (fun _ => False) (fun _ k => (outMax G c f s - k).toNat) :=
    job_of grid hs ht hst (by decide) (fun φ A σ E Q i q => Cm.lt q) fun f₁ k p hF hP hl R hF' hb => by
      have hl := of_decide_eq_true hl
      have hb1 := Road.wide grid (inf := 1000) (by decide) hst hF R hW
      have hb2 := Road.wide grid (inf := 1000) (W := 10) (by decide) hst hF R fun i j _ _ => by have := hD.c5 i j; have := hD.c5 j i; omega
      refine ⟨fun z => by omega, fun _ => ⟨fun z => ?_, fun z => by omega⟩⟩
      have := (hP.1 z).2; omega
  have F00 : FlowG G c f s t f 0 := Flow.zero (fun u v _ _ => hD.anti u v) (fun u v _ _ => hD.le u v) fun u v hu hv hn => (noS u v hu hv hn).2
  refine EsN.cons (ExN.asg (EvN.callG (by walk_at "mem") (El.cons (Ev.loc (by walk_at "mem") (El.cons (Ev.sub (Ev.loc (by walk_at "mem") (Ev.loc (by walk_at "mem") (Su.vec hB.names hs (by omega) (El.cons (Ev.sub (Ev.loc (by walk_at "mem") (Ev.loc (by walk_at "mem") (Su.vec hB.names ht (by omega) (El.cons (Ev.loc (by walk_at "mem") (El.nil ⟨Kp.kin (by kernel_rfl), core_first (hA.le (by decide)) hh J hN (.head _) hB.tab ⟨F00, fun _ => ⟨rfl, rfl⟩, fun z => by omega⟩ (fun _ _ _ _ hb => hb.elim) fun f₁ told υ hI hd hC b hT' => ?_⟩)))))))))))))))))
  obtain ⟨hF, hP⟩ := hI
  walk_at "stok"
  refine SeqN.next ?_
  replace hB := hB.pl (fun a x e p => b a x e fun m => hN.plain hB.tab e p (by
    simp only [List.mem_cons] at m ⊢
    rcases m with m | m | m
    · exact .inl m
    · exact .inr (.inl m)
    · exact .inr (.inr (.inr m)))) hT'
  clear hN b hT'
  -- what it reads
  refine EsN.cons (ExN.of (Ex.asg (Ev.callG (by walk_at "mem") (El.cons (Ev.loc (by walk_at "mem") (El.cons (Ev.loc (by walk_at "mem") (El.cons (Ev.cel (by walk_at "mem") hB.hc (El.nil (Ek.nil ⟨Kp.kin (by kernel_rfl), read_spec (hA.le (by decide)) hC hB.names hB.mc (fun _ _ _ _ => rfl) hF.cap (fun i j hi hj hn => ⟨(noS i j hi hj hn).1, hF.off i j hi hj hn⟩) fun aw rw' υ₁ hM hC' b' => ?_⟩)))))))))))
  walk_at "stok"
  refine SeqN.next ?_
  replace hB := hB.pl (hC.pl hB.tab b' (by simp)) (hC.tab hB.tab b')
  clear hC b'
  -- what is added
  have tb := trunc_abs (by decide) (hF.abs grid (W := 10) (fun i j _ _ => by have := hD.c5 i j; have := hD.c5 j i; omega) (by decide))
  have added : ∀ {Q : Val → Sig → Prop} {φ' : Phi} {E' : Value → Shared → Prop}, (∀ σ', υ₁.But σ' [] → Q (.bool true) σ') → Cl B φ' A (.ref 741) [.int G.n, .ref af, .ref aw, .int s, .int t, .int told] [] υ₁ Q E' := fun {Q φ' E'} z =>
    added_spec (hA.le (by decide)) (by omega) hB.mf hM.trunc (fun i j => by have := hD.big i j; omega) (fun i j => by have := tb i j; omega) (fun u hu => by rw [rowSum_trunc hu]; exact hF.sum u hu) (fun u v hu hv => by rw [trunc_in hu hv, trunc_in hv hu]; exact hF.anti u v hu hv) z
  refine EsN.cons (ExN.of (Ex.ifs (Bt.or (Bt.cmp (Ev.loc (by walk_at "mem") (Ev.none (Cm.isNoneF (by intro e; cases e) (Tr.bool (tF (Bt.or (Bt.not (Bt.val (Ev.callG (by walk_at "mem") (El.cons (Ev.cel (by walk_at "mem") hB.hn (El.cons (Ev.cel (by walk_at "mem") hB.hf (El.cons (Ev.loc (by walk_at "mem") (El.cons (Ev.loc (by walk_at "mem") (El.cons (Ev.loc (by walk_at "mem") (El.cons (Ev.loc (by walk_at "mem") (El.nil (Ek.nil ⟨Kp.kin (by kernel_rfl), added fun υ₂ b2 => Tr.bool (tF (Bt.or_nil (tF (Es.nil (SeqN.next ?_)))))⟩)))))))))))))))))))))))))))
  replace hB := hB.but b2
  replace hM := hM.pl b2.pl
  replace hC' := hC'.keep0 b2
  have fin := q f₁ told aw rw' υ₂ hF hC' hM hB
  clear q added tb b2
  -- the bounds
  refine EsN.cons (ExN.of (Ex.ifs (Bt.cmp (Ev.loc (by walk_at "mem") (Ev.int (Cm.le (Tr.bool ⟨fun h => ?_, fun h => ?_⟩)))))))
  · obtain ⟨rfl, rfl⟩ := hP.1 (of_decide_eq_true h)
    refine Es.cons (Ex.ifs (Bt.or (Bt.cmp (Ev.loc (by walk_at "mem") (Ev.int (Cm.ne (Tr.bool (nT rfl (Bt.or (Bt.cmp (Ev.loc (by walk_at "mem") (Ev.cel (by walk_at "mem") hB.hf (Cm.neMat (hA.le (by decide)) hM hB.mf (Tr.bool (tF (Bt.or_nil (tF (Es.nil (Seq.next (Es.nil (SeqN.next fin)))))))))))))))))))))
  · have hC0 : 0 < C := Int.not_le.mp (of_decide_eq_false h)
    have h3 := hP.2 hC0
    obtain ⟨b, rfl, hkb, hmin⟩ := law_first grid hF (fun u v _ _ => hD.anti u v) hs ht hst hbest hd
    refine Es.cons (Ex.ifs (Bt.or (Bt.cmp (Ev.loc (by walk_at "mem") (Ev.callG (by walk_at "mem") (El.cons (Ev.loc (by walk_at "mem") (El.cons (Ev.loc (by walk_at "mem") (El.nil (Ek.nil ⟨Kp.bi, Cl.min2 hh (Cm.lt (Tr.bool (dF (by omega) (Bt.or (Bt.cmp (Ev.loc (by walk_at "mem") (Ev.loc (by walk_at "mem") (Cm.gt (Tr.bool (dF (by omega) (Bt.or (Bt.cmp (Ev.loc (by walk_at "mem") (Ev.bin (Ev.loc (by walk_at "mem") (Ev.loc (by walk_at "mem") (Bn.add (Cm.ge (Tr.bool (dF (by omega) (Bt.or_nil (tF (Es.nil (Seq.next (Es.nil (SeqN.next fin))))))))))))))))))))))))))⟩)))))))))))
end
noncomputable def Net.Apart (G : Net) (a : Addr) : Prop := a ≠ G.x ∧ a ≠ G.d ∧ a ≠ G.g ∧ a ≠ G.nd ∧ a ≠ G.sc ∧ a ≠ G.pr ∧ (∀ i, i < G.n → a ≠ G.sa i ∧ a ≠ G.pa i) ∧ ∀ i j, i < G.n → j ∈ G.S i → a ≠ G.ea i j
theorem Net.AtC.apart {G : Net} {σ : Sig} {c f : Nat → Nat → Int} {gr : List (Str × Val)} (h : G.AtC σ c f gr) {a : Addr} (ha : σ a = none) : G.Apart a := by
  obtain ⟨_, _, h⟩ := h
  obtain ⟨_, e1⟩ := h.hnd
  obtain ⟨_, e2⟩ := h.hsc
  obtain ⟨_, e3⟩ := h.hpr
  exact ⟨(Sig.ne h.hx ha).symm, (Sig.ne h.hd ha).symm, (Sig.ne h.hg ha).symm, (Sig.ne e1 ha).symm, (Sig.ne e2 ha).symm, (Sig.ne e3 ha).symm,
    fun i hi => ⟨let ⟨_, e⟩ := h.hsa i hi; (Sig.ne e ha).symm, let ⟨_, e⟩ := h.hpa i hi; (Sig.ne e ha).symm⟩, fun i j hi hj => (Sig.ne (h.hea i j hi hj) ha).symm⟩
theorem Net.AtC.keepL {G : Net} {σ σ' : Sig} {c f : Nat → Nat → Int} {gr : List (Str × Val)} (h : G.AtC σ c f gr) {l : List Addr} (b : σ.But σ' l) (hl : ∀ a ∈ l, G.Apart a) : G.AtC σ' c f gr := let ⟨k, hk, h⟩ := h; ⟨k, hk, h.keep b hl⟩
/-- the graph that is handed in -/
structure SmallG (τ : Sig) (G : Net) (x dx g nd sc pr : Addr) (N : List Int) (na sa pa : Int → Addr) : Prop where
  hx : τ x = some (.inst 676 dx)
  hd : τ dx = some (.dD (gdict g nd sc pr ++ []) false)
  cnd : ∃ ep, τ nd = some (.dI (tabOf N na) ep)
  csc : ∃ ep, τ sc = some (.dI (tabOf N sa) ep)
  cpr : ∃ ep, τ pr = some (.dI (tabOf N pa) ep)
  e1 : nd ≠ sc
  e2 : nd ≠ pr
  e3 : sc ≠ pr
  ap : G.Apart x ∧ G.Apart dx ∧ G.Apart nd ∧ G.Apart sc ∧ G.Apart pr
theorem SmallG.keep {τ τ' : Sig} {G : Net} {x dx g nd sc pr : Addr} {N : List Int} {na sa pa : Int → Addr} (h : SmallG τ G x dx g nd sc pr N na sa pa) {l : List Addr} (b : τ.But τ' l) (hl : ∀ a ∈ l, ¬ G.Apart a) : SmallG τ' G x dx g nd sc pr N na sa pa :=
  have n : ∀ {a : Addr}, G.Apart a → a ∉ l := fun p m => hl _ m p
  ⟨b _ _ h.hx (n h.ap.1), b _ _ h.hd (n h.ap.2.1), let ⟨e, w⟩ := h.cnd; ⟨e, b _ _ w (n h.ap.2.2.1)⟩, let ⟨e, w⟩ := h.csc; ⟨e, b _ _ w (n h.ap.2.2.2.1)⟩, let ⟨e, w⟩ := h.cpr; ⟨e, b _ _ w (n h.ap.2.2.2.2)⟩, h.e1, h.e2, h.e3, h.ap⟩
theorem names_cut {n : Nat} {nm : Nat → Int} (hn : 0 < n) : (vecOf n fun i => Val.int (nm i)).take (clipAt (vecOf n fun i => Val.int (nm i)).length (-1)) = ((List.range (n - 1)).map nm).map Val.int := by
  rw [vecOf_len, clip_neg hn]
  show ((List.range n).map fun i => Val.int (nm i)).take (n - 1) = _
  rw [← List.map_take, List.take_range, Nat.min_eq_left (by omega), List.map_map]
  rfl
theorem names_last {n : Nat} {nm : Nat → Int} (hn : 0 < n) : (vecOf n fun i => Val.int (nm i)).getLast? = some (.int (nm (n - 1))) := by
  obtain ⟨k, rfl⟩ : ∃ k, n = k + 1 := ⟨n - 1, by omega⟩
  rw [vecOf_succ, List.getLast?_concat]; rfl
section
variable {B : Bd} {φ : Phi} {A : Around} {σ : Sig} {E : Value → Shared → Prop}
/-- what is refused -/
theorem law_F {env : Env} {sa cn cst cc cf : Addr} {G : Net} {d it an ac af aw : Addr} {rc rf rw' : Nat → Addr} {c f f₁ : Nat → Nat → Int} {o1 o2 : Option Val} {s t : Nat} {k C W told : Int} {most : Val} {Q : Fl → LM → Sig → Prop} (hA : AOk A 12) (hh : A.handled = none)
    (hn2 : 2 ≤ G.n) (hn5 : G.n ≤ 5) (habs : ∀ i, (G.nm i).natAbs ≤ 1000) (hno : ∀ i j, i < G.n → j < G.n → j ∉ G.S i → c i j ≤ 0) (hF : FlowG G c f s t f₁ told)
    (hB : LawB σ G.n G.nm d it an ac af cn cc cf rc rf c f) (hC : G.AtC σ c f₁ [(Str.ofString "inf", .int 1000)]) (hM : MatAt σ aw G.n rw' f₁)
    (q : ∀ (x dx g nd sc pr : Addr) (na sna pa : Int → Addr) (τ : Sig), SmallG τ G x dx g nd sc pr ((List.range (G.n - 1)).map G.nm) na sna pa → G.AtC τ c f₁ [(Str.ofString "inf", .int 1000)] → LawB τ G.n G.nm d it an ac af cn cc cf rc rf c f →
      EsN B φ A ⟨env, lawC cn cst cc cf, lawG⟩ (lawM (some (.ref sa)) (some (.ref d)) (some (.ref an)) o1 o2 (some (.int s)) (some (.int t)) (some (.int k)) (some (.int C)) (some (.ref G.x)) (some most) (some (.int W)) (some (.int told)) (some (.ref aw)) (some (.ref x)) none) (lawBody.drop 21) τ Q E) :
    EsN B φ A ⟨env, lawC cn cst cc cf, lawG⟩ (lawM (some (.ref sa)) (some (.ref d)) (some (.ref an)) o1 o2 (some (.int s)) (some (.int t)) (some (.int k)) (some (.int C)) (some (.ref G.x)) (some most) (some (.int W)) (some (.int told)) (some (.ref aw)) none none) (lawBody.drop 17) σ Q E := by
  have inj : ∀ i j, i < G.n → j < G.n → G.nm i = G.nm j → i = j := let ⟨_, _, h⟩ := hC; h.ok.inj
  refine EsN.cons (ExN.of (Ex.asg (Ev.callG (by walk_at "mem") (El.nil (Ek.nil ⟨Kp.kin kept676, digraph_0 (hA.le (by decide)) fun x dx g nd sc pr υ hG => ?_⟩)))))
  walk_at "stok"
  refine SeqN.next ?_
  have hnm := hG.but _ _ hB.names List.not_mem_nil
  refine EsN.cons (ExN.of (Ex.expr (Ev.methG m_addnodes (Ev.loc (by walk_at "mem") ⟨x, dx, _, _, rfl, hG.hx, hG.hd, by unfold gdict; walk_at "nokeys", El.cons (Ev.sub (Ev.loc (by walk_at "mem") (Ev.slice (Ev.un (Ev.int (Un.neg ⟨-1, rfl, fun b hb => Su.sliceTo ((Sig.upd_ne (Sig.ne hnm hb)).trans hnm) Sig.upd_self (by rw [vecOf_len]; omega) fun l hl => ?_⟩))))))⟩))))
  rw [names_cut (n := G.n) (nm := G.nm) (by omega)]
  have b1 : υ.But ((υ.upd b (sliceC (-1))).upd l (.list (((List.range (G.n - 1)).map G.nm).map Val.int))) [] := Sig.But.fresh (Sig.But.fresh Sig.But.refl hb) hl
  have hl2 : ((υ.upd b (sliceC (-1))).upd l (.list (((List.range (G.n - 1)).map G.nm).map Val.int))) l = some (.list (((List.range (G.n - 1)).map G.nm).map Val.int)) := Sig.upd_self
  generalize (υ.upd b (sliceC (-1))).upd l (.list (((List.range (G.n - 1)).map G.nm).map Val.int)) = ω at *
  have hgd : ∀ {k : Str} {v : Val}, (k, v) ∈ gdict g nd sc pr ++ [] → (k, v) ∈ gdict g nd sc pr := fun h => by rwa [List.append_nil] at h
  refine El.nil (Ek.nil (addnodes_spec (N := (List.range (G.n - 1)).map G.nm) (hA.le (by decide)) (b1 _ _ hG.hx List.not_mem_nil) (b1 _ _ hG.hd List.not_mem_nil) (hgd gd_node) (hgd gd_succ) (hgd gd_pred) (by unfold gdict; walk_at "nokeys") (by unfold gdict; walk_at "nokeys") hl2
    (b1 _ _ hG.hn List.not_mem_nil) (b1 _ _ hG.hs List.not_mem_nil) (b1 _ _ hG.hp List.not_mem_nil) hG.e1 hG.e2 hG.e3 ?_ (by rw [List.length_map, List.length_range]; omega) fun na sna pa ψ hN => SeqN.next ?_))
  · refine List.pairwise_iff_getElem.mpr fun i j hi hj hij e => ?_
    simp only [List.getElem_map, List.getElem_range] at e
    simp only [List.length_map, List.length_range] at hi hj
    have := inj i j (by omega) (by omega) e
    omega
  have k2 : ∀ {a : Addr} {y : Cell}, υ a = some y → (∀ kv ep, y ≠ .dI kv ep) → ψ a = some y := fun {a y} e n => by
    refine hN.but _ _ (b1 _ _ e List.not_mem_nil) fun m => ?_
    simp only [List.mem_cons, List.not_mem_nil, or_false] at m
    rcases m with rfl | rfl | rfl
    · rw [hG.hn] at e; cases e; exact n _ _ rfl
    · rw [hG.hs] at e; cases e; exact n _ _ rfl
    · rw [hG.hp] at e; cases e; exact n _ _ rfl
  have b2 : σ.But ψ [] := Sig.But.past ((hG.but.trans b1).mono fun a h => by simp at h) hN.but fun a ha => by
    simp only [List.mem_cons, List.not_mem_nil, or_false] at ha
    rcases ha with rfl | rfl | rfl
    · exact hG.fn
    · exact hG.fs
    · exact hG.fp
  have hS : SmallG ψ G x dx g nd sc pr ((List.range (G.n - 1)).map G.nm) na sna pa := by
    refine ⟨k2 hG.hx (by intros; exact fun e => nomatch e), ?_, hN.cnd, hN.csc, hN.cpr, hG.e1, hG.e2, hG.e3, hC.apart hG.fx, hC.apart hG.fd, hC.apart hG.fn, hC.apart hG.fs, hC.apart hG.fp⟩
    rw [List.append_nil]; exact k2 hG.hd (by intros; exact fun e => nomatch e)
  replace hB := hB.but b2
  replace hC := hC.keep0 b2
  replace hM := hM.pl b2.pl
  clear k2 b2 b1 hN hgd hl2 hl hb hnm hG
  -- three that are refused
  have nm0 : (vecOf G.n fun i => Val.int (G.nm i))[0]? = some (.int (G.nm 0)) := vecOf_get (by omega)
  have nmL := names_last (n := G.n) (nm := G.nm) (by omega)
  have out : G.nm (G.n - 1) ∉ (tabOf ((List.range (G.n - 1)).map G.nm) na).map (·.1) := by
    rw [tabOf_keys]
    intro m
    obtain ⟨i, hi, e⟩ := List.mem_map.mp m
    have hi := List.mem_range.mp hi
    have := inj i (G.n - 1) (by omega) (by omega) e
    omega
  obtain ⟨ep, hnd⟩ := hS.cnd
  have ref : ∀ {a b : Int} {Q : Val → Sig → Prop} {φ' : Phi} {E' : Value → Shared → Prop}, a.natAbs ≤ 1000 → b.natAbs ≤ 1000 → (a ∉ (tabOf ((List.range (G.n - 1)).map G.nm) na).map (·.1) ∨ b ∉ (tabOf ((List.range (G.n - 1)).map G.nm) na).map (·.1) ∨ a = b) → Q (.bool true) ψ → Cl B φ' A (.ref 753) [.ref x, .int a, .int b, .ref G.x] [] ψ Q E' :=
    fun h1 h2 h3 q => refused_spec (hA.le (by decide)) hh hS.hx hS.hd hnd h1 h2 h3 q
  refine EsN.cons (ExN.of (Ex.ifs (Bt.or (Bt.not (Bt.val (Ev.callG (by walk_at "mem") (El.cons (Ev.loc (by walk_at "mem") (El.cons (Ev.sub (Ev.loc (by walk_at "mem") (Ev.int (Su.list (i := 0) hB.names (by omega) (by omega) nm0 (El.cons (Ev.sub (Ev.loc (by walk_at "mem") (Ev.un (Ev.int (Un.neg (Su.last hB.names nmL (El.cons (Ev.loc (by walk_at "mem") (El.nil (Ek.nil ⟨Kp.kin (by kernel_rfl), ref (habs _) (habs _) (.inr (.inl out)) (Tr.bool (tF ?_))⟩))))))))))))))))))))))))
  refine Bt.or (Bt.not (Bt.val (Ev.callG (by walk_at "mem") (El.cons (Ev.loc (by walk_at "mem") (El.cons (Ev.sub (Ev.loc (by walk_at "mem") (Ev.un (Ev.int (Un.neg (Su.last hB.names nmL (El.cons (Ev.sub (Ev.loc (by walk_at "mem") (Ev.int (Su.list (i := 0) hB.names (by omega) (by omega) nm0 (El.cons (Ev.loc (by walk_at "mem") (El.nil (Ek.nil ⟨Kp.kin (by kernel_rfl), ref (habs _) (habs _) (.inl out) (Tr.bool (tF ?_))⟩)))))))))))))))))))))
  refine Bt.or (Bt.not (Bt.val (Ev.callG (by walk_at "mem") (El.cons (Ev.loc (by walk_at "mem") (El.cons (Ev.sub (Ev.loc (by walk_at "mem") (Ev.int (Su.list (i := 0) hB.names (by omega) (by omega) nm0 (El.cons (Ev.sub (Ev.loc (by walk_at "mem") (Ev.int (Su.list (i := 0) hB.names (by omega) (by omega) nm0 (El.cons (Ev.loc (by walk_at "mem") (El.nil (Ek.nil ⟨Kp.kin (by kernel_rfl), ref (habs _) (habs _) (.inr (.inr rfl)) (Tr.bool (tF (Bt.or_nil (tF (Es.nil (SeqN.next ?_))))))⟩)))))))))))))))))))
  -- nothing has moved
  refine EsN.cons (ExN.of (Ex.ifs (Bt.cmp (Ev.callG (by walk_at "mem") (El.cons (Ev.loc (by walk_at "mem") (El.cons (Ev.loc (by walk_at "mem") (El.cons (Ev.cel (by walk_at "mem") hB.hc (El.nil (Ek.nil ⟨Kp.kin (by kernel_rfl), read_spec (hA.le (by decide)) hC hB.names hB.mc (fun _ _ _ _ => rfl) hF.cap (fun i j hi hj hn => ⟨hno i j hi hj hn, hF.off i j hi hj hn⟩) fun aw' rw'' υ₁ hM' hC' b' => ?_⟩))))))))))))
  have pl := hC.pl hB.tab b' (by simp)
  refine Ev.loc (by walk_at "mem") (Cm.neMat (hA.le (by decide)) hM' (hM.pl pl) (Tr.bool (tF (Es.nil (SeqN.next ?_)))))
  exact q x dx g nd sc pr na sna pa υ₁ (hS.keep b' fun a m p => by rw [List.mem_singleton.mp m] at p; exact p.2.1 rfl) hC' (hB.pl pl (hC.tab hB.tab b'))
end
theorem SmallG.key {n : Nat} {nm : Nat → Int} {na : Int → Addr} {v : Val} {i : Nat} (hi : i < n) : nm i ∈ (tabOf ((List.range (n - 1)).map nm) na ++ [(nm (n - 1), v)]).map (·.1) := by
  rw [List.map_append, tabOf_keys]
  by_cases e : i = n - 1
  · exact List.mem_append_right _ (by rw [e]; exact .head _)
  · exact List.mem_append_left _ (List.mem_map_of_mem (List.mem_range.mpr (by omega)))
section
variable {B : Bd} {φ : Phi} {A : Around} {σ : Sig} {E : Value → Shared → Prop}
/-- the call through impl, and the road -/
theorem law_G {env : Env} {sa cn cst cc cf : Addr} {G : Net} {d it an ac af aw x dx g nd sc pr : Addr} {na sna pa : Int → Addr} {rc rf : Nat → Addr} {c f f₁ : Nat → Nat → Int} {o1 o2 : Option Val} {s t : Nat} {k C W told : Int} {most : Val} {Q : Fl → LM → Sig → Prop} (hA : AOk A 13) (hh : A.handled = none)
    (hn2 : 2 ≤ G.n) (hn5 : G.n ≤ 5) (hs : s < G.n) (ht : t < G.n) (hst : s ≠ t) (hD : Drawn c f) (grid : Grid G c)
    (hB : LawB σ G.n G.nm d it an ac af cn cc cf rc rf c f) (hC : G.AtC σ c f₁ [(Str.ofString "inf", .int 1000)]) (hS : SmallG σ G x dx g nd sc pr ((List.range (G.n - 1)).map G.nm) na sna pa)
    (q : ∀ m τ, CoreTab τ → Q (.ret (.bool true)) m τ) :
    EsN B φ A ⟨env, lawC cn cst cc cf, lawG⟩ (lawM (some (.ref sa)) (some (.ref d)) (some (.ref an)) o1 o2 (some (.int s)) (some (.int t)) (some (.int k)) (some (.int C)) (some (.ref G.x)) (some most) (some (.int W)) (some (.int told)) (some (.ref aw)) (some (.ref x)) none) (lawBody.drop 21) σ Q E := by
  have inj : ∀ i j, i < G.n → j < G.n → G.nm i = G.nm j → i = j := grid.ok.inj
  have noS : ∀ i j, i < G.n → j < G.n → j ∉ G.S i → c i j ≤ 0 := fun i j hi hj hn => by
    by_cases e : i = j
    · subst e; rw [hD.cd i]; exact Int.le_refl _
    · exact Int.not_lt.mp fun z => hn ((grid.mem i j hi).mpr ⟨e, hj, .inl z⟩)
  -- the last node
  obtain ⟨e1, h1⟩ := hS.cnd
  obtain ⟨e2, h2⟩ := hS.csc
  obtain ⟨e3, h3⟩ := hS.cpr
  have out : ∀ {g : Int → Addr}, G.nm (G.n - 1) ∉ (tabOf ((List.range (G.n - 1)).map G.nm) g).map (·.1) := by
    intro g
    rw [tabOf_keys]
    intro m
    obtain ⟨i, hi, e⟩ := List.mem_map.mp m
    have hi := List.mem_range.mp hi
    have := inj i (G.n - 1) (by omega) (by omega) e
    omega
  have len : ∀ {g : Int → Addr}, (tabOf ((List.range (G.n - 1)).map G.nm) g).length ≤ 900 := by intro g; rw [List.length_map, List.length_map, List.length_range]; omega
  refine EsN.cons (ExN.of (Ex.expr (Ev.methG m_addnode (Ev.loc (by walk_at "mem") ⟨x, dx, _, _, rfl, hS.hx, hS.hd, by unfold gdict; walk_at "nokeys", El.cons (Ev.sub (Ev.loc (by walk_at "mem") (Ev.un (Ev.int (Un.neg (Su.last hB.names (names_last (by omega)) (El.nil (Ek.nil (addnode_spec (hA.le (by decide)) hS.hx hS.hd gd_node gd_succ gd_pred (by unfold gdict; walk_at "nokeys") (by unfold gdict; walk_at "nokeys") h1 h2 h3 hS.e1 hS.e2 hS.e3 out out out len len len fun na' ep υ b1 hnd => SeqN.next ?_)))))))))⟩))))
  have keep1 : ∀ {a : Addr} {y : Cell}, σ a = some y → (∀ kv ep, y ≠ .dI kv ep) → υ a = some y := fun {a y} e n => by
    refine b1 _ _ e fun m => ?_
    simp only [List.mem_cons, List.not_mem_nil, or_false] at m
    rcases m with rfl | rfl | rfl
    · rw [h1] at e; cases e; exact n _ _ rfl
    · rw [h2] at e; cases e; exact n _ _ rfl
    · rw [h3] at e; cases e; exact n _ _ rfl
  have pl1 : σ.Pl υ := fun a y e p => keep1 e (by rcases p with ⟨_, rfl⟩ | ⟨_, rfl⟩ <;> (intros; exact fun e => nomatch e))
  have hT1 : CoreTab υ := by
    refine hB.tab.keep b1 (fun m => ?_) fun a m y e => ?_
    · have hw : ∃ o, σ 695 = some (.obj o) := by rcases hB.tab with w | ⟨_, _, w, _⟩ <;> exact ⟨_, w⟩
      obtain ⟨o, w⟩ := hw
      simp only [List.mem_cons, List.not_mem_nil, or_false] at m
      rcases m with rfl | rfl | rfl
      · rw [h1] at w; cases w
      · rw [h2] at w; cases w
      · rw [h3] at w; cases w
    · simp only [List.mem_cons, List.not_mem_nil, or_false] at m
      rcases m with rfl | rfl | rfl
      · rw [h1] at e; cases e
      · rw [h2] at e; cases e
      · rw [h3] at e; cases e
  replace hB := hB.pl pl1 hT1
  replace hC := hC.keepL b1 fun a m => by
    simp only [List.mem_cons, List.not_mem_nil, or_false] at m
    rcases m with rfl | rfl | rfl
    · exact hS.ap.2.2.1
    · exact hS.ap.2.2.2.1
    · exact hS.ap.2.2.2.2
  have hx := keep1 hS.hx (by intros; exact fun e => nomatch e)
  have hd := keep1 hS.hd (by intros; exact fun e => nomatch e)
  clear keep1 pl1 hT1 h1 h2 h3 b1 hS out len
  -- impl
  have J : Job B G c s t 1000 (.flt fInf) (fun _ => true) (fun f₂ k => FlowG G c (fun _ _ => 0) s t f₂ k ∧ True) (fun _ => False) (fun _ k => (outMax G c (fun _ _ => 0) s - k).toNat) :=
    job_of grid hs ht hst (by decide) (fun φ A σ E Q i q => Cm.ltInf q) fun f₂ k p hF _ hl R hF' hb => by
      have hb2 := Road.wide grid (inf := 1000) (W := 10) (by decide) hst hF R fun i j _ _ => by have := hD.c5 i j; have := hD.c5 j i; omega
      exact ⟨fun z => by omega, fun _ => trivial⟩
  have F00 : FlowG G c (fun _ _ => 0) s t (fun _ _ => 0) 0 := Flow.zero (fun u v _ _ => rfl) (fun u v _ _ => hD.c0 u v) fun u v hu hv hn => rfl
  refine EsN.cons (ExN.of (Ex.ifs (Bt.cmp (Ev.callG (by walk_at "mem") (El.cons (Ev.loc (by walk_at "mem") (El.cons (Ev.sub (Ev.loc (by walk_at "mem") (Ev.loc (by walk_at "mem") (Su.vec hB.names hs (by omega) (El.cons (Ev.sub (Ev.loc (by walk_at "mem") (Ev.loc (by walk_at "mem") (Su.vec hB.names ht (by omega) (El.cons (Ev.str (El.cons (Ev.loc (by walk_at "mem") (El.cons (Ev.none (El.nil (Ek.nil ⟨Kp.kin (by kernel_rfl), impl_spec (hA.le (by decide)) hh J hC hB.tab ⟨F00, trivial⟩ hx hd hnd (SmallG.key hs) (SmallG.key ht) fun f₂ val ψ hI hcut hC' b2 hT2 => Ev.loc (by walk_at "mem") (Cm.isNotSelf (Tr.bool (tF (Es.nil (SeqN.next ?_)))))⟩))))))))))))))))))))))))
  obtain ⟨hF, -⟩ := hI
  replace hB := hB.pl (hC.pl hB.tab b2 fun a m => by
    simp only [List.mem_cons] at m ⊢
    exact .inr m) hT2
  clear hC b2 hT2 hx hd hnd F00 J
  -- what it reads
  refine EsN.cons (ExN.of (Ex.asg (Ev.callG (by walk_at "mem") (El.cons (Ev.loc (by walk_at "mem") (El.cons (Ev.loc (by walk_at "mem") (El.cons (Ev.cel (by walk_at "mem") hB.hc (El.nil (Ek.nil ⟨Kp.kin (by kernel_rfl), read_spec (hA.le (by decide)) hC' hB.names hB.mc (fun _ _ _ _ => rfl) hF.cap (fun i j hi hj hn => ⟨noS i j hi hj hn, hF.off i j hi hj hn⟩) fun aw' rw'' υ₁ hM hC b' => ?_⟩)))))))))))
  walk_at "stok"
  refine SeqN.next ?_
  replace hB := hB.pl (hC'.pl hB.tab b' (by simp)) (hC'.tab hB.tab b')
  clear hC' b'
  -- what is added
  have rng : ∀ {υ : Sig} {m' : LM} {ψ : Phi} {A'' : Around} {env' : Env} {cells : List (Str × Addr)} {gl : List (Str × Value)} {K : Sig → Prop} {E : Value → Shared → Prop} {p₁ p₂ p₃ : Pos}, υ cn = some (.cel (some (.int (G.n : Int)))) → (Str.ofString "n", cn) ∈ cells → (Str.ofString "range", Value.type "range") ∈ gl → (∀ a, υ a = none → K (υ.upd a (rangeC 0 (G.n : Int) 1))) →
      Ev B ψ A'' ⟨env', cells, gl⟩ m' (.Call (.Name (Str.ofString "range") p₁) [.Name (Str.ofString "n") p₂] [] p₃) υ (fun v σ₁ => It B ((env'.locals, .fr ⟨env', cells, gl⟩ m') :: ψ) A'' v σ₁ (upTo (G.n : Int)) (fun _ => True) K) E := fun {υ m' ψ A'' env' cells gl K E p₁ p₂ p₃} b h1 h2 h3 =>
    Ev.callG h2 (El.cons (Ev.cel h1 b (El.nil (Ek.nil ⟨Kp.ty, Cl.range fun a ha => It.range Sig.upd_self (by omega) (by omega) (h3 a ha)⟩))))
  have tb := trunc_abs (by decide) (hF.abs grid (W := 10) (fun i j _ _ => by have := hD.c5 i j; have := hD.c5 j i; omega) (by decide))
  refine EsN.cons (ExN.of (Ex.ifs (Bt.or (Bt.cmp (Ev.loc (by walk_at "mem") (Ev.none (Cm.isNoneF (by intro e; cases e) (Tr.bool (tF (Bt.or (Bt.not (Bt.val (Ev.callG (by walk_at "mem") (El.cons (Ev.cel (by walk_at "mem") hB.hn (El.cons (Ev.comp (ls := [Str.ofString "u"]) (fr := [(Str.ofString "n", cn)]) (gl := []) (vs := upTo (G.n : Int)) (R := fun _ => True) (by kernel_rfl) (fun q hq => by rw [List.mem_singleton.mp hq]; simp) (fun _ h => nomatch h) (rng hB.hn (by walk_at "mem") (by walk_at "mem") fun a ha => zeros_loop (σ₀ := υ₁) (Sig.But.fresh Sig.But.refl ha) (N := G.n) (by omega) (by kernel_rfl) ((Sig.upd_ne (Sig.ne hB.hn ha)).trans hB.hn)) ?_)))))))))))))))))
  rintro ys ω az ⟨rz, rfl, hr⟩ haz
  have b1 : υ₁.But (ω.upd az (.list (vecOf G.n fun i => .ref (rz i)))) [] := Sig.But.fresh hr.but haz
  have mz := hr.rowsM.mat haz
  replace hB := hB.but b1
  replace hC := hC.keep0 b1
  replace hM := hM.pl b1.pl
  generalize ω.upd az (.list (vecOf G.n fun i => .ref (rz i))) = ψ₂ at *
  clear hr haz b1
  obtain ⟨kvs, hk, hN⟩ := hC
  refine El.cons (Ev.loc (by walk_at "mem") (El.cons (Ev.loc (by walk_at "mem") (El.cons (Ev.loc (by walk_at "mem") (El.cons (Ev.sub (Ev.attr (Ev.loc (by walk_at "mem") (Ga.attr ga_graph hN.hx hN.hd gd_graph (Ev.str (Su.dS hN.hg (.tail _ (.head _)) (El.nil (Ek.nil ⟨Kp.kin (by kernel_rfl), added_spec (hA.le (by decide)) (by omega) mz hM.trunc (fun i j => by omega) (fun i j => by have := tb i j; omega) (fun u hu => by rw [rowSum_trunc hu]; exact hF.sum u hu) (fun u v hu hv => by rw [trunc_in hu hv, trunc_in hv hu]; exact hF.anti u v hu hv) fun υ₂ b2 => Tr.bool (tF (Bt.or_nil (tF (Es.nil (SeqN.next ?_)))))⟩))))))))))))))
  replace hB := hB.but b2
  replace hN := hN.keep0 b2
  clear tb b2 mz hM
  -- the value
  refine EsN.cons (ExN.of (Ex.ifs (Bt.or (Bt.cmp (Ev.sub (Ev.attr (Ev.loc (by walk_at "mem") (Ga.attr ga_graph hN.hx hN.hd gd_graph (Ev.str (Su.dS hN.hg (.tail _ (.head _)) (Ev.callG (by walk_at "mem") (El.cons (Ev.cel (by walk_at "mem") hB.hn (El.cons (Ev.cel (by walk_at "mem") hB.hc (El.cons (Ev.loc (by walk_at "mem") (El.cons (Ev.loc (by walk_at "mem") (El.nil (Ek.nil ⟨Kp.kin (by kernel_rfl), least_spec (hA.le (by decide)) (by omega) hs ht hB.mc (fun i j => by have := hD.c0 i j; have := hD.c5 i j; omega) fun v υ₃ hbest b3 => ?_⟩)))))))))))))))))))))
  obtain rfl := law_whole grid hF hs ht hst hbest hcut
  replace hB := hB.but b3
  replace hN := hN.keep0 b3
  refine Cm.ne (Tr.bool (nT rfl (Bt.or (Bt.cmp (Ev.str (Ev.attr (Ev.loc (by walk_at "mem") (Ga.attr ga_graph hN.hx hN.hd gd_graph (Cm.inS hN.hg (Tr.bool (dF (by walk_at "nokeys") (Bt.or_nil (tF (Es.nil (SeqN.next ?_)))))))))))))))
  -- the road
  refine EsN.cons (ExN.ret (EvN.callG (by walk_at "mem") (El.cons (Ev.loc (by walk_at "mem") (El.nil ⟨Kp.kin (by kernel_rfl), road_spec (hA.le (by decide)) hh hB.draw hB.tab fun υ₄ hT4 => q _ _ hT4⟩)))))
end
section
variable {B : Bd} {φ : Phi} {A : Around} {σ : Sig} {E : Value → Shared → Prop}
/-- the law, from its first statement to its last -/
theorem law_body {env : Env} {sa cn cst cc cf : Addr} {xs : List Int} {Q : Fl → LM → Sig → Prop} (hA : AOk A 13) (hh : A.handled = none) (hE : PassesOwn (M0 B.w) A env E) (hs : BaseL B sa (xs.map Val.int)) (hx : xs.length ≤ 63)
    (h1 : σ cn = some (.cel none)) (h2 : σ cst = some (.cel none)) (h3 : σ cc = some (.cel none)) (h4 : σ cf = some (.cel none)) (m1 : cn ≠ cst ∧ cn ≠ cc ∧ cn ≠ cf ∧ cst ≠ cc ∧ cst ≠ cf ∧ cc ≠ cf) (hT : CoreTab σ)
    (q : ∀ m τ, CoreTab τ → Q (.ret (.bool true)) m τ) :
    EsN B φ A ⟨env, lawC cn cst cc cf, lawG⟩ (lawM (some (.ref sa)) none none none none none none none none none none none none none none none) lawBody σ Q E := by
  have hA' : AOk A 12 := hA.le (by decide)
  refine law_A hA' hh hs hx h1 h2 h3 h4 m1 hT fun n st d it an ac af rc rf σ₁ hn2 hn5 hst N hB => ?_
  refine law_B hA' hh hE N hn5 hB fun c f σ₂ o1 o2 hD hB => ?_
  refine law_C hA' N hn2 hB fun s t k C σ₃ hs ht hst' hB => ?_
  refine law_D hA' hh hn2 hn5 hs ht (fun i j hi hj => lawNm_inj st hst i (by omega) j (by omega)) hD hB fun G most W σ₄ gn gm hN hS hbest hW hB => ?_
  subst gn
  have habs : ∀ i, (G.nm i).natAbs ≤ 1000 := fun i => by rw [gm]; exact lawNm_abs
  rw [← gm] at hB
  have grid : Grid G c := ⟨hN.ok, hS, fun i j _ _ => hD.c0 i j⟩
  refine law_E hA' hh hn2 hn5 hs ht hst' hD hB hN hS hbest hW fun f₁ told aw rw' σ₅ hF hC hM hB => ?_
  refine law_F hA' hh hn2 hn5 habs (fun i j hi hj hn => ?_) hF hB hC hM fun x dx g nd sc pr na sna pa σ₆ hSm hC hB => ?_
  · by_cases e : i = j
    · subst e; rw [hD.cd i]; exact Int.le_refl _
    · exact Int.not_lt.mp fun z => hn ((hS i j hi).mpr ⟨e, hj, .inl z⟩)
  exact law_G hA hh hn2 hn5 hs ht hst' hD grid hB hC hSm q
end
noncomputable def lawPair : DefRec × List (Str × Expr) := (defOf q1 PySem.Challenge.rw_ej5013_01.row.name).get (by kernel_rfl)
noncomputable def lawRec : DefRec := lawPair.1
theorem law_rec {d : DefRec} {kwd : List (Str × Expr)} (h : defOf q1 PySem.Challenge.rw_ej5013_01.row.name = some (d, kwd)) : d = lawRec ∧ kwd = lawPair.2 := by
  have e : lawPair = (d, kwd) := by unfold lawPair; simp only [h, Option.get_some]
  unfold lawRec
  rw [e]; exact ⟨rfl, rfl⟩
noncomputable def lawFd (pm cd doc : Value) : FuncData := docDef lawRec.name lawRec.params lawRec.body lawRec.scope pm cd doc
theorem lawRec_body : lawRec.body = lawBody := by kernel_rfl
theorem lawRec_cells : cellNames lawRec.scope.names = [Str.ofString "n", Str.ofString "start", Str.ofString "caps", Str.ofString "flows"] := by kernel_rfl
theorem lawRec_bind {pm cd doc u : Value} : bindArgs (lawFd pm cd doc) ⟨[u], []⟩ = pure [(Str.ofString "script", u)] := by kernel_rfl
noncomputable def lawLs : List Str := [Str.ofString "script", Str.ofString "draw", Str.ofString "names", Str.ofString "u", Str.ofString "v", Str.ofString "s", Str.ofString "t", Str.ofString "kind", Str.ofString "cutoff", Str.ofString "R", Str.ofString "most", Str.ofString "widest", Str.ofString "told", Str.ofString "now", Str.ofString "G", Str.ofString "again"]
theorem lawRec_chk : fmChk lawRec.scope lawLs (cellNames lawRec.scope.names ++ []) (lawG.map (·.1)) = true := by kernel_rfl
theorem lawRec_plain : lawRec.scope.isCoroutine = false ∧ lawRec.scope.isGenerator = false ∧ lawRec.scope.kind = .function := ⟨by kernel_rfl, by kernel_rfl, by kernel_rfl⟩
theorem lawRec_dflts : lawRec.params.defaults = [] ∧ lawPair.2 = [] := ⟨by kernel_rfl, by kernel_rfl⟩
section
variable {B : Bd} {φ : Phi} {A : Around} {σ : Sig} {E : Value → Shared → Prop}
/-- the law, called -/
theorem law_fn {a sa : Addr} {o : Obj} {pm cd doc : Value} {xs : List Int} {Q : Val → Sig → Prop} (hA : AOk A 14) (hh : A.handled = none) (hfo : B.H.get? a = some o) (hcr : B.H.CodeRec cd lawRec.name) (hd : o.data = .func (lawFd pm cd doc))
    (hs : BaseL B sa (xs.map Val.int)) (hx : xs.length ≤ 63) (hT : CoreTab σ) (q : ∀ τ, CoreTab τ → Q (.bool true) τ) : ClN B φ A (.ref a) [.ref sa] [] σ Q E := by
  refine ClN.defE (k := 13) (fd := lawFd pm cd doc) (body := lawRec.body) (ls := lawLs) (gl := lawG) hA (fun s S => ⟨S.keep _ _ hfo, hcr.keeps S.keep⟩) hd rfl lawRec_chk (by show (cellNames lawRec.scope.names ++ []).Nodup; rw [lawRec_cells]; decide) (by walk_at "gl") ?_ rfl rfl lawRec_plain.1 lawRec_plain.2.1 lawRec_plain.2.2
  intro us ks hu hks s F S
  obtain rfl := no_kw hks
  obtain ⟨u, rfl, hu'⟩ := one_arg hu
  rw [lawRec_bind]
  refine wpAny_pure ⟨σ, S, ?_⟩
  intro env A' E' as hA' eA eE hE hlen hfr hcode hqual
  have hlen : as.length = 4 := by rw [hlen]; show (cellNames lawRec.scope.names).length = 4; rw [lawRec_cells]; rfl
  obtain ⟨cn, cst, cc, cf, rfl⟩ : ∃ a b c d, as = [a, b, c, d] := hb4 (P := fun as => ∃ a b c d, as = [a, b, c, d]) (fun a b c d => ⟨a, b, c, d, rfl⟩) as hlen
  obtain ⟨h1, h2, h3, h4, -⟩ := hfr
  obtain ⟨n1, h2⟩ := Sig.upd_none h2
  obtain ⟨n2, h3⟩ := Sig.upd_none h3
  obtain ⟨n3, h3⟩ := Sig.upd_none h3
  obtain ⟨n4, h4⟩ := Sig.upd_none h4
  obtain ⟨n5, h4⟩ := Sig.upd_none h4
  obtain ⟨n6, h4⟩ := Sig.upd_none h4
  have hh' : A'.handled = none := by rw [eA]; exact hh
  have eC : ownCs (lawFd pm cd doc).scope.names [cn, cst, cc, cf] (lawFd pm cd doc).closure = lawC cn cst cc cf := by
    show (cellNames lawRec.scope.names).zip [cn, cst, cc, cf] ++ [] = _
    rw [lawRec_cells]; rfl
  rw [eC, lawRec_body]
  refine .inl ⟨lawM (some (.ref sa)) none none none none none none none none none none none none none none none, (by show Sto _ _ (er u) _; rw [hu']; exact Sto.head), BindK.nil ?_⟩
  show EsN B φ A' ⟨env, lawC cn cst cc cf, lawG⟩ (lawM (some (.ref sa)) none none none none none none none none none none none none none none none) lawBody ((((σ.upd cn (.cel none)).upd cst (.cel none)).upd cc (.cel none)).upd cf (.cel none)) _ E'
  have b0 : σ.But ((((σ.upd cn (.cel none)).upd cst (.cel none)).upd cc (.cel none)).upd cf (.cel none)) [] := Sig.But.new (Sig.But.new (Sig.But.new (Sig.But.new Sig.But.refl h1) h2) h3) h4
  exact law_body hA' hh' hE hs hx (by walk_at "look") (by walk_at "look") (by walk_at "look") (by walk_at "look") ⟨n1.symm, n3.symm, n6.symm, n2.symm, n5.symm, n4.symm⟩ (hT.but b0) fun m τ hT' => q τ hT'
end
theorem hasItems_ints {R : WRecords} : ∀ {ds : List WData}, WShape.hasItems R ds .int = true → ∃ xs : List Int, ds = xs.map WData.int
  | [], _ => ⟨[], rfl⟩
  | d :: ds, h => by
    simp only [WShape.hasItems, Bool.and_eq_true] at h
    obtain ⟨i, rfl⟩ := hasW_int h.1
    obtain ⟨xs, rfl⟩ := hasItems_ints h.2
    exact ⟨i :: xs, rfl⟩
theorem readsAll_ints {R : WRecords} {cl : Str → Option Addr} {h : Heap} : ∀ {xs : List Int} {vs : List Value} {as : List Addr}, ReadsAllW R cl h vs (xs.map WData.int) as → vs.map er = xs.map Val.int
  | [], _, _, r => by cases r; rfl
  | x :: xs, _, _, r => by
    cases r with
    | cons r1 r2 =>
      cases r1
      rw [List.map_cons, readsAll_ints r2]; rfl
theorem law_pre {args : List WData} (h : PySem.Challenge.rw_ej5013_01.row.toRowW.claim.pre args = true) : ∃ xs : List Int, args = [.list (xs.map WData.int)] ∧ xs.length ≤ 63 := by
  obtain ⟨h1, h2⟩ := pre_splitW h
  obtain ⟨d, r, rfl, h3, h4⟩ := hasAllW_cons (es := []) (e := .list .int) h1
  obtain rfl := hasAllW_nil h4
  obtain ⟨ds, rfl, h5⟩ := hasW_list h3
  obtain ⟨xs, rfl⟩ := hasItems_ints h5
  refine ⟨xs, rfl, ?_⟩
  have h6 := (holds_andW (a := .not (.lt (.lit (.int 63)) (.len (.arg 0)))) (b := .lit (.bool true)) h2).1
  have e : (WTm.not (.lt (.lit (.int 63)) (.len (.arg 0)))).value PySem.Challenge.rw_ej5013_01.row.toRowW.records { args := [WData.list (xs.map WData.int)] } = some (.bool (!decide ((63 : Int) < ((xs.map WData.int).length : Int)))) := rfl
  unfold WTm.holds at h6
  rw [e] at h6
  have h7 : (!decide ((63 : Int) < ((xs.map WData.int).length : Int))) = true := by
    cases hb : (!decide ((63 : Int) < ((xs.map WData.int).length : Int))) with
    | true => rfl
    | false => rw [hb] at h6; cases h6
  rw [List.length_map] at h7
  simp at h7
  omega
theorem walk1 : Hd.WalkP := by
  intro d kwd h w s₀ s₁ mg mb G Y a o pm cd doc dV kV ho hd hcd hD hmg hg args vals as hpre hlay hrd hwl hlo
  obtain ⟨rfl, rfl⟩ := law_rec h
  obtain rfl : dV = .none := by rcases hD.pos with ⟨_, e⟩ | ⟨e, _⟩; exact e; exact absurd lawRec_dflts.1 e
  obtain rfl : kV = .none := by rcases hD.kw with ⟨_, e⟩ | ⟨e, _⟩; exact e; exact absurd lawRec_dflts.2 e
  have hd : o.data = .func (lawFd pm cd doc) := hd
  obtain ⟨xs, rfl, hx⟩ := law_pre hpre
  obtain ⟨v, vs, bs, cs, rfl, rfl, r1, r2⟩ := readsAllW_cons_inv hrd
  obtain ⟨rfl, rfl⟩ := readsAllW_nil_inv r2
  cases r1 with
  | @list sa ol items n _ ds hol hoc hod r3 =>
  have hit := readsAll_ints r3
  have K : (K0 w).In s₁.heap := km_in_of Y
  have tab : s₁.heap.get? 695 = some (tabObj #[]) := km_tabs_of Y 695 (by simp)
  have hT : TabsAt [(699, 695)] s₁.heap := fun q hq => by rw [List.mem_singleton.mp hq]; exact ⟨codeHd_of_K K (by kernel_rfl), tab⟩
  have nt : ∀ {b : Addr} {x : Obj}, s₁.heap.get? b = some x → x ≠ tabObj #[] → (ghostOf s₁.heap [(699, 695)]).get? b = some x := fun e n => ghost_get hT e n
  let B : Bd := ⟨w, ghostOf s₁.heap [(699, 695)], s₁⟩
  let σ : Sig := fun b => if b = 695 then some (.obj (tabObj #[])) else none
  have bs' : Bs w (ghostOf s₁.heap [(699, 695)]) := ⟨ghost_K hT K (by kernel_rfl), ⟨_, _, _, _, ghost_top hT G.T⟩⟩
  have S : St B [] σ s₁ := by
    refine ⟨bs', ⟨s₁.heap, s₁.toks, rfl⟩, fun b x e => of_hideAll _ e, fun b c e => ?_, fun p hp => (nomatch hp), List.nodup_nil⟩
    by_cases hb : b = 695
    · subst hb
      have : c = .obj (tabObj #[]) := by have e' : some (Cell.obj (tabObj #[])) = some c := e; injection e' with e'; exact e'.symm
      subst this
      exact ⟨tab, hideAll_none _ (by simp), by decide⟩
    · have e' : (if b = 695 then some (Cell.obj (tabObj #[])) else none) = some c := e
      rw [if_neg hb] at e'; cases e'
  have F : FrOk callerA [] := ⟨.inl rfl, [], rfl, fun _ h => nomatch h⟩
  have hA : AOk callerA 14 := ⟨by decide, by decide⟩
  have hfo : B.H.get? a = some o := nt ho fun q => by rw [q] at hd; cases hd
  have hcr : B.H.CodeRec cd lawRec.name := by
    obtain ⟨c, oc, vs, tq, e1, e2, e3, e4⟩ := hcd
    exact ⟨c, oc, vs, tq, e1, nt e2 (fun q => by rw [q] at e3; cases e3; cases e4), e3, e4⟩
  have hs : BaseL B sa (xs.map Val.int) := ⟨ol, items, n, nt hol (fun q => by rw [q] at hoc; cases hoc), hoc, hod, hit⟩
  refine wpN.mono (law_fn (B := B) (φ := []) (A := callerA) (σ := σ) (E := fun _ _ => False) (Q := fun v τ => v = .bool true ∧ CoreTab τ) hA rfl hfo hcr hd hs hx (.inl (if_pos rfl)) (fun τ hτ => ⟨rfl, hτ⟩) [.ref sa] [] rfl rfl s₁ F S) (fun v s' hv => ?_) fun _ _ x => x.elim
  obtain ⟨σ', S', hv, hT'⟩ := hv
  obtain rfl := er_bool hv
  obtain ⟨h', tk', es⟩ := S'.base
  have gr : ∃ ps, s'.heap.get? 695 = some (tabObj ps) := by
    rcases hT' with e | ⟨_, _, e, _⟩ <;> exact ⟨_, S'.look e⟩
  obtain ⟨ps, hP⟩ := gr
  have keep : ∀ b x, b ≠ 695 → s₁.heap.get? b = some x → s'.heap.get? b = some x := fun b x hb e => S'.keep b x (ghost_ne e (by simpa using hb))
  refine ⟨.inl ⟨.bool true, .bool true, [], rfl, fun cls => raisesW_false (fun ct h => absurd (show ct ∈ ([] : List (ExcName × WTm)) from h) List.not_mem_nil) cls, .bool true, postW_of (X := true) (by kernel_rfl) (by kernel_rfl) rfl, fun _ => ⟨List.nodup_nil, fun _ h => nomatch h⟩⟩, ⟨fun b x e => ?_, fun b x e => ?_⟩, ?_, ?_⟩
  · by_cases hb : b = 695
    · subst hb
      rw [tab] at e; cases e
      exact .inr (.inl ⟨((hT _ (.head _)).1.tab tab).isCodeTable, rfl, #[], ps, rfl, by rw [Array.empty_append]; exact hP⟩)
    · exact .inl (keep b x hb e)
  · by_cases hb : b = 695
    · subst hb; exact ⟨_, hP⟩
    · exact ⟨x, keep b x hb e⟩
  · rw [es]
  · refine AllBare.of_eq ?_
    rw [es]; exact hg
end Mine
end
section
open PySem PySem.W PySem.Calls PyProof.Rows
set_option Elab.async false
set_option maxRecDepth 100000
set_option maxHeartbeats 8000000
namespace Mine.Hd
theorem final : PySem.Challenge.rw_ej5013_01.Holds := by
  w_on
  o_law
  o_head Hook.none
  case hw => w_witness2
  exact walk1 _ _ rfl
end Mine.Hd
end
set_option maxHeartbeats 8000000 in
theorem PySem.Challenge.cw_ej5013_01_holds : PySem.Challenge.rw_ej5013_01.Holds := by
  exact Mine.Hd.final
