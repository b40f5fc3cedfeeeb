import PyProof.Rows.All
import Wide.All
import OpenK.AllK
import Wide.FinOn
import PySem.Challenge.RW_pe0030_01
set_option Elab.async false
section PartHd0
open PySem PySem.W PyProof.Rows
namespace Mine
set_option maxRecDepth 100000 in
set_option maxHeartbeats 8000000 in
open_top hd0 for PySem.Challenge.rw_pe0030_01
end Mine
end PartHd0
section PartB1
open PySem PySem.W PySem.Calls PySem.Spec PyProof.Rows
theorem Mine.calmB1 : True := by w_top off; k_with_none; trivial
set_option maxRecDepth 100000
namespace Mine


abbrev posHit : Pos := ⟨29, 4, 30, 21⟩
abbrev posTurns : Pos := ⟨35, 4, 39, 19⟩
abbrev posBeyond : Pos := ⟨44, 4, 48, 19⟩
abbrev qHit : Str := (Str.ofString "_law_hit") ++ ".<locals>." ++ (Str.ofString "hit")
abbrev qTurns : Str := (Str.ofString "_law_turns") ++ ".<locals>." ++ (Str.ofString "search")
abbrev qBeyond : Str := (Str.ofString "_law_beyond") ++ ".<locals>." ++ (Str.ofString "search")

/-- a code table's state -/
def TS (h : Heap) (ps : Array Value) (pos : Pos) (q : Str) : Prop :=
  TriplesOk ps.toList ∧ (codeAmong pos ps.toList = none ∨ ∃ c, codeAmong pos ps.toList = some (.ref c) ∧ h.CodeRec (.ref c) q ∧ c ≠ 65 ∧ c ≠ 51 ∧ c ≠ 58)

structure Bs (w : World) (g : Heap) : Prop where
  X : (hd0.heap_39 w.params).In g
  T : ∃ loose mean mg mb, Top topProg loose mean mg mb g
  c65 : CodeHd g 69 65
  c51 : CodeHd g 55 51
  c58 : CodeHd g 62 58
  n65 : g.get? 65 = none
  n51 : g.get? 51 = none
  n58 : g.get? 58 = none

structure Good (g h : Heap) : Prop where
  keep : ∀ b o, g.get? b = some o → h.get? b = some o
  t65 : ∃ ps, h.get? 65 = some (tabObj ps) ∧ TS h ps posBeyond qBeyond
  t51 : ∃ ps, h.get? 51 = some (tabObj ps) ∧ TS h ps posHit qHit
  t58 : ∃ ps, h.get? 58 = some (tabObj ps) ∧ TS h ps posTurns qTurns

/-- all kept but the tables -/
def Ext (h h' : Heap) : Prop := ∀ b o, b ≠ 65 → b ≠ 51 → b ≠ 58 → h.get? b = some o → h'.get? b = some o
theorem Ext.refl (h : Heap) : Ext h h := fun _ _ _ _ _ e => e
theorem Ext.trans {a b c : Heap} (x : Ext a b) (y : Ext b c) : Ext a c := fun q o h1 h2 h3 e => y q o h1 h2 h3 (x q o h1 h2 h3 e)

theorem TS.to {h h' : Heap} {ps : Array Value} {pos : Pos} {q : Str} (x : TS h ps pos q) (k : ∀ c, c ≠ 65 → c ≠ 51 → c ≠ 58 → h.CodeRec (.ref c) q → h'.CodeRec (.ref c) q) : TS h' ps pos q := by
  obtain ⟨a, b | ⟨c, e, r, n⟩⟩ := x
  · exact ⟨a, .inl b⟩
  · exact ⟨a, .inr ⟨c, e, k c n.1 n.2.1 n.2.2 r, n⟩⟩

section
variable {w : World} {g : Heap} {A : Around} {s : Shared} {R : Result → Shared → Prop} {name qual : Str} {params : Arguments} {body : List Stmt} {scope : Scope} {dV kV doc pm cdv ct oc : Value} {an od : Option Addr} {osl : Array (Option Value)} {f : Addr} {args : Args} {binds : List (Str × Value)}

theorem enterH (B : Bs w g) (G : Good g s.heap) (extra : List (Addr × Obj)) (he : ∀ p ∈ extra, s.heap.get? p.1 = some p.2 ∧ g.get? p.1 = none) (hx : ∀ p ∈ extra, ∀ vs, p.2.data ≠ .fields vs)
    (ho : (hd0.heap_39 w.params).lookup f = some ⟨oc, od, .func (fnOf name qual params body scope dV kV doc pm an cdv ct), osl⟩) (hcd : codeIn (hd0.heap_39 w.params) cdv qual = true) (hroom : A.depth < recursionLimit)
    (hbind : BindsTo s (fnOf name qual params body scope dV kV doc pm an cdv ct) args binds) (hloc : ∀ y ∈ binds, scope.names.lookup y.1 = some .local)
    (h : ∀ (g' : Heap) (L' : Addr) (h₁ : Heap) (p65 p51 p58 : Array Value) (loose : List Str) (mean : ExcName → Option Value) (mg mb : Str → Option Value),
      GSub s.heap g' (65 :: 51 :: 58 :: extra.map (·.1)) → (∀ b o, g'.get? b = some o → s.heap.get? b = some o) →
      TS g' p65 posBeyond qBeyond → TS g' p51 posHit qHit → TS g' p58 posTurns qTurns → CodeHd g' 69 65 → CodeHd g' 55 51 → CodeHd g' 62 58 →
      Fr g' L' h₁ (fun y => binds.reverse.lookup y) → News g' L' h₁ ((65, tabObj p65) :: (51, tabObj p51) :: (58, tabObj p58) :: extra) → (hd0.heap_39 w.params).In g' → Top topProg loose mean mg mb g' →
      (∀ p ∈ (65, tabObj p65) :: (51, tabObj p51) :: (58, tabObj p58) :: extra, p.1 < L') →
      wpAny (model PySem.Challenge.rw_pe0030_01.row.prog w) (A.deeper (envOf qual scope L' f cdv)) (execs body (envOf qual scope L' f cdv))
        (fun fl s' => R (.ok (.ret (match fl with | .ret v => v | _ => .none))) s')
        (fun _ _ => False)
        { s with heap := h₁, toks := s.toks + binds.length })
    (hco : scope.isCoroutine = false := by rfl) (hgen : scope.isGenerator = false := by rfl) (hk : scope.kind = .function := by rfl)
    (hcell : ∀ x ∈ scope.names, x.2 ≠ .cell := by decide) : codeAny (model PySem.Challenge.rw_pe0030_01.row.prog w) A (.call (.ref f) args) R s := by
  obtain ⟨loose, mean, mg, mb, T⟩ := B.T
  have X := B.X.keeps G.keep
  refine codeAny_call_def (fd := fnOf name qual params body scope dV kV doc pm an cdv ct) (body := body) (binds := binds) hroom (X _ _ ho) rfl (T.nolimit.keeps G.keep) (codeRec_of X hcd) rfl hbind hcell hloc (fun h₁ hns hk₁ => ?_) hco hgen hk
  obtain ⟨p65, e65, s65⟩ := G.t65
  obtain ⟨p51, e51, s51⟩ := G.t51
  obtain ⟨p58, e58, s58⟩ := G.t58
  let hid : List Addr := 65 :: 51 :: 58 :: extra.map (·.1)
  have ng : ∀ b o, g.get? b = some o → b ∉ hid := by
    intro b o e hb
    rcases List.mem_cons.mp hb with rfl | hb
    · rw [B.n65] at e; cases e
    rcases List.mem_cons.mp hb with rfl | hb
    · rw [B.n51] at e; cases e
    rcases List.mem_cons.mp hb with rfl | hb
    · rw [B.n58] at e; cases e
    obtain ⟨p, hp, rfl⟩ := List.mem_map.mp hb
    rw [(he p hp).2] at e; cases e
  have gs : GSub s.heap (hideAll s.heap hid) hid := fun b o e n => hideAll_get _ e n
  have gk : ∀ b o, g.get? b = some o → (hideAll s.heap hid).get? b = some o := fun b o e => gs b o (G.keep b o e) (ng b o e)
  have ts : ∀ {ps : Array Value} {pos : Pos} {q : Str}, TS s.heap ps pos q → TS (hideAll s.heap hid) ps pos q := fun x => x.to fun c n1 n2 n3 r => by
    obtain ⟨c', o, vs, t, e, h1, h2, h3⟩ := r
    cases e
    refine ⟨c, o, vs, t, rfl, gs _ _ h1 fun hb => ?_, h2, h3⟩
    rcases List.mem_cons.mp hb with rfl | hb
    · exact n1 rfl
    rcases List.mem_cons.mp hb with rfl | hb
    · exact n2 rfl
    rcases List.mem_cons.mp hb with rfl | hb
    · exact n3 rfl
    obtain ⟨p, hp, rfl⟩ := List.mem_map.mp hb
    rw [(he p hp).1] at h1
    cases h1
    exact hx p hp _ h2
  have ln : ∀ p ∈ (65, tabObj p65) :: (51, tabObj p51) :: (58, tabObj p58) :: extra, s.heap.get? p.1 = some p.2 := by
    intro p hp
    rcases List.mem_cons.mp hp with rfl | hp
    · exact e65
    rcases List.mem_cons.mp hp with rfl | hp
    · exact e51
    rcases List.mem_cons.mp hp with rfl | hp
    · exact e58
    exact (he p hp).1
  refine wpAny_mono (?_ : wpAny _ _ _ _ (fun _ _ => False) _) (fun _ _ x => x) fun _ _ x => x.elim
  refine h (hideAll s.heap hid) s.heap.objs.size h₁ p65 p51 p58 loose mean mg mb gs (fun b o e => of_hideAll _ e) (ts s65) (ts s51) (ts s58) (B.c65.keeps gk) (B.c51.keeps gk) (B.c58.keeps gk)
    ⟨hns, fun b o e => hk₁ b o (of_hideAll _ e), Nat.le_of_eq (hideAll_size _ _)⟩ (fun p hp => ⟨hk₁ _ _ (ln p hp), Nat.ne_of_lt (Heap.lt_size (ln p hp)), hideAll_none _ ?_⟩) (B.X.keeps gk) (T.keeps gk) (fun p hp => Heap.lt_size (ln p hp))
  have : p.1 ∈ ((65, tabObj p65) :: (51, tabObj p51) :: (58, tabObj p58) :: extra).map (·.1) := List.mem_map_of_mem hp
  exact this
end

section
variable {w : World} {g : Heap} {H g' : Heap} {L' : Addr} {h' : Heap} {m' : Str → Option Value} {news : List (Addr × Obj)}
/-- leaving with the tables as the ledger has them -/
theorem endGood {ex : List Addr} (B : Bs w g) (G : Good g H) (GS : GSub H g' (65 :: 51 :: 58 :: ex)) (hex : ∀ a ∈ ex, g.get? a = none) (F : Fr g' L' h' m') (N : News g' L' h' news) {p65 p51 p58 : Array Value}
    (m65 : (65, tabObj p65) ∈ news) (m51 : (51, tabObj p51) ∈ news) (m58 : (58, tabObj p58) ∈ news) (t65 : TS h' p65 posBeyond qBeyond) (t51 : TS h' p51 posHit qHit) (t58 : TS h' p58 posTurns qTurns) : Good g h' where
  keep := fun b o e => F.keep b o (GS b o (G.keep b o e) (by
    intro hb
    rcases List.mem_cons.mp hb with rfl | hb
    · rw [B.n65] at e; cases e
    rcases List.mem_cons.mp hb with rfl | hb
    · rw [B.n51] at e; cases e
    rcases List.mem_cons.mp hb with rfl | hb
    · rw [B.n58] at e; cases e
    rw [hex b hb] at e; cases e))
  t65 := ⟨p65, (N _ m65).1, t65⟩
  t51 := ⟨p51, (N _ m51).1, t51⟩
  t58 := ⟨p58, (N _ m58).1, t58⟩
theorem endExt (GS : GSub H g' [65, 51, 58]) (F : Fr g' L' h' m') : Ext H h' := fun b o n1 n2 n3 e => F.keep b o (GS b o e (by
    intro hb
    rcases List.mem_cons.mp hb with h | hb
    · exact n1 h
    rcases List.mem_cons.mp hb with h | hb
    · exact n2 h
    exact n3 (List.mem_singleton.mp hb)))
theorem TS.keeps {h h' : Heap} {ps : Array Value} {pos : Pos} {q : Str} (x : TS h ps pos q) (k : ∀ b o, h.get? b = some o → h'.get? b = some o) : TS h' ps pos q := x.to fun _ _ _ _ r => r.keeps k
end
end Mine
end PartB1
section PartFA
open PySem PySem.W PySem.Calls PySem.Spec PyProof.Rows
theorem Mine.calmFA : True := by w_top off; k_with_none; trivial
set_option maxRecDepth 100000
namespace Mine

theorem slotFnGa : Slot "function" "__getattribute__" "object.__getattribute__" :=
  .of (owner := "object") (n := "__getattribute__") (by rw [typeLookup_type, builtinLookup_eq_fast]; kernel_rfl) (by decide +kernel) (by decide +kernel) (by decide +kernel)
    (by first | exact .inl (by decide +kernel) | exact .inr (by decide +kernel)) (by rw [isSubtype_type]; kernel_rfl)
theorem slotFnSa : Slot "function" "__setattr__" "object.__setattr__" :=
  .of (owner := "object") (n := "__setattr__") (by rw [typeLookup_type, builtinLookup_eq_fast]; kernel_rfl) (by decide +kernel) (by decide +kernel) (by decide +kernel)
    (by first | exact .inl (by decide +kernel) | exact .inr (by decide +kernel)) (by rw [isSubtype_type]; kernel_rfl)
theorem fnNoGetattr : typeLookup (.type "function") "__getattr__" = pure none := by rw [typeLookup_type, builtinLookup_eq_fast]; kernel_rfl
theorem fnNoBool : typeLookup (.type "function") "__bool__" = pure none := by rw [typeLookup_type, builtinLookup_eq_fast]; kernel_rfl
theorem fnNoLen : typeLookup (.type "function") "__len__" = pure none := by rw [typeLookup_type, builtinLookup_eq_fast]; kernel_rfl
theorem fnNoSpan : typeLookup (.type "function") (Str.ofString "span") = pure none := by rw [typeLookup_type, builtinLookup_eq_fast]; kernel_rfl
theorem fnNoSearch : typeLookup (.type "function") (Str.ofString "search") = pure none := by rw [typeLookup_type, builtinLookup_eq_fast]; kernel_rfl
theorem fnMro : mroOf (.type "function") = pure [.type "function", .type "object"] := by first | rfl | (unfold mroOf; kernel_rfl)
theorem fnHasDict : typeHasDict (.type "function") = true := by decide +kernel

section
variable {prog : Program} {w : World} {A : Around} {E : Value → Shared → Prop} {s : Shared}

theorem truthy_fn {f : Addr} {Q : Bool → Shared → Prop} (hT : s.TypeIs (.ref f) "function") (h : Q true s) : wpAny (model prog w) A (truthy (.ref f)) Q E s := by
  unfold truthy
  dsimp only
  refine wpAny_bind (wpAny_callSpecial?_none hT fnNoBool ?_)
  dsimp only
  refine wpAny_bind (wpAny_specialOf hT fnNoLen ?_)
  exact wpAny_pure h

abbrev fnObj (fd : FuncData) (dd : Option Addr) (sl : Array (Option Value)) : Obj := { cls := .type "function", dict := dd, data := .func fd, slots := sl }

theorem meets_ga_fn (f d : Addr) (name : Str) (u : Tok) (x : Addr) (m : Str → Option Value) (fd : FuncData) (sl : Array (Option Value)) (hmiss : typeLookup (.type "function") name = pure none) (hm : m name = some (.ref x)) :
    Meets (Builtin.«object.__getattribute__» ⟨[.ref f, .str name u], []⟩) (fun _ R s => s.heap.get? f = some (fnObj fd (some d) sl) ∧ s.heap.Ns d m ∧ R (.ok (.ret (.ref x))) s) :=
  Meets.of_wp fun prog w A R s hs => by
    obtain ⟨hx, hn, hs⟩ := hs
    obtain ⟨hp, g, dr, tk, os⟩ := s
    have hT : (⟨hp, g, dr, tk, os⟩ : Shared).TypeIs (.ref f) "function" := ⟨_, hx, rfl⟩
    unfold Builtin.«object.__getattribute__»
    repeat (any_goals (first | assumption | ((with_reducible show wpAny _ _ (nsGet _ _) _ _ _); (refine wpAny_nsGet hn ?_); rw [hm]) | wp_step))
    exact ⟨_, rfl, hs⟩

theorem getAttr_fn {f d : Addr} {name : Str} {x : Addr} {m : Str → Option Value} {fd : FuncData} {sl : Array (Option Value)} {Q : Value → Shared → Prop}
    (hx : s.heap.get? f = some (fnObj fd (some d) sl)) (hn : s.heap.Ns d m) (hmiss : typeLookup (.type "function") name = pure none) (hm : m name = some (.ref x))
    (h : Q (.ref x) { s with toks := s.toks + 1 }) : wpAny (model prog w) A (getAttr (.ref f) name) Q E s := by
  obtain ⟨hp, g, dr, tk, os⟩ := s
  have hT : ∀ tk', (⟨hp, g, dr, tk', os⟩ : Shared).TypeIs (.ref f) "function" := fun _ => ⟨_, hx, rfl⟩
  have f3 := slotFnGa.lookup
  have f4 := slotFnGa.bind (.ref f)
  have f5 := fnNoGetattr
  unfold getAttr getAttrBy
  repeat (any_goals (first | assumption | exact hT _ | ((with_reducible show wpAny _ _ (call (Value.builtin "object.__getattribute__") _ _) _ _ _); refine call_meets slotFnGa (hT _) F.entry_object_getattribute (F.args_object_getattribute_2 _ _) (meets_ga_fn f d name _ x m fd sl hmiss hm) ⟨hx, hn, ?_⟩) | wp_step))
  show wpAny _ _ (handedOut (.ref x)) _ _ _
  exact wpAny_pure h

theorem getMethod_fn {f d : Addr} {name : Str} {x : Addr} {m : Str → Option Value} {fd : FuncData} {sl : Array (Option Value)} {pl : Sem Bool} {Q : Value × List Value → Shared → Prop}
    (hx : s.heap.get? f = some (fnObj fd (some d) sl)) (hn : s.heap.Ns d m) (hmiss : typeLookup (.type "function") name = pure none) (hm : m name = some (.ref x))
    (h : Q (.ref x, []) { s with toks := s.toks + 1 }) : wpAny (model prog w) A (getMethod (.ref f) name pl) Q E s := by
  have hT : s.TypeIs (.ref f) "function" := ⟨_, hx, rfl⟩
  unfold getMethod
  refine wpAny_bind (wpAny_specialOf hT slotFnGa.lookup ?_)
  dsimp only
  rw [show (Manifest.canonical "object.__getattribute__" != "object.__getattribute__") = false by decide +kernel, if_neg Bool.false_ne_true]
  refine wpAny_bind (wpAny_specialOf hT fnNoGetattr ?_)
  rw [if_neg (by simp)]
  refine wpAny_bind (wpAny_specialOf hT hmiss ?_)
  dsimp only
  exact wpAny_bind (getAttr_fn hx hn hmiss hm (wpAny_pure h))


theorem fnRefuse (self : Value) : refuseLoop self "__setattr__" [.type "function", .type "object"] = pure () := by kernel_rfl

/-- a first attribute laid on a function: a dict of its own is made -/
theorem meets_sa_fn (f : Addr) (name : Str) (u : Tok) (v : Value) (fd : FuncData) (sl : Array (Option Value)) (hmiss : typeLookup (.type "function") name = pure none) :
    Meets (Builtin.«object.__setattr__» ⟨[.ref f, .str name u, v], []⟩) (fun _ R s => s.heap.get? f = some (fnObj fd none sl) ∧
      ∀ d h' tk, s.heap.objs.size ≤ d → h'.get? f = some (fnObj fd (some d) sl) → h'.Ns d (fun x => if x = name then some v else none) → (∀ b o, b ≠ f → s.heap.get? b = some o → h'.get? b = some o) → R (.ok (.ret .none)) { s with heap := h', toks := tk }) :=
  Meets.of_wp fun prog w A R s hs => by
    obtain ⟨hx, hs⟩ := hs
    obtain ⟨h, g, dr, tk, os⟩ := s
    have hT : (⟨h, g, dr, tk, os⟩ : Shared).TypeIs (.ref f) "function" := ⟨_, hx, rfl⟩
    rw [osa_eq, refuse_eq]
    refine wpAny_bind (wpAny_bind (wpAny_typeOf hT (wpAny_bind (wpAny_of_eq fnMro ?_))))
    rw [fnRefuse]
    refine wpAny_pure (wpAny_bind (wpAny_typeOf hT (wpAny_bind (wpAny_of_eq hmiss (wpAny_bind (wpAny_pure ?_))))))
    dsimp only
    have hx₁ : (h.push { cls := .type "dict", data := .dict #[] }).get? f = some (fnObj fd none sl) := Heap.get?_push_of_some _ hx
    have hxs : f ≠ h.objs.size := Nat.ne_of_lt (Heap.lt_size hx)
    show wpAny _ _ (instanceDict f true >>= fun r => match r with | some d => Builtin.ObjectAttr.storeInDict d (.str name u) name v | none => _) _ _ _
    refine wpAny_bind (wpAny_bind (wpAny_loadPart hx ?_))
    dsimp only
    rw [if_neg (by rw [fnHasDict]; decide)]
    refine wpAny_bind (wpAny_alloc' ?_)
    refine wpAny_bind (wpAny_update' hx₁ ?_)
    unfold dictMade
    dsimp only
    rw [show finalisedInACycleAlone "function" = false by decide +kernel]
    refine wpAny_pure ?_
    have hgd : ((h.push { cls := .type "dict", data := .dict #[] }).update f fun o => { cls := o.cls, dict := some h.objs.size, data := o.data, slots := o.slots }).get? h.objs.size
        = some { cls := .type "dict", data := .dict #[] } :=
      (Heap.get?_update_ne _ _ _ _ hxs.symm).trans (Heap.get?_push_at rfl rfl)
    have hnd : ((h.push { cls := .type "dict", data := .dict #[] }).update f fun o => { cls := o.cls, dict := some h.objs.size, data := o.data, slots := o.slots }).Ns h.objs.size (fun _ => none) :=
      ⟨_, #[], _, hgd, rfl, fun e he => absurd he (by simp), fun _ => rfl⟩
    show wpAny _ _ (Builtin.ObjectAttr.storeInDict h.objs.size (.str name u) name v) _ _ _
    unfold Builtin.ObjectAttr.storeInDict Builtin.ObjectAttr.newKeyGuard
    refine wpAny_bind (wpAny_pure (wpAny_bind (wpAny_nsSet1 (Heap.Ns1.of_empty hnd) fun h' hn' hs' => ?_)))
    obtain ⟨oD, esD, epD, hoD, hdD, hcD⟩ := hn'.count (Within.cons name v Within.nil)
    refine wpAny_bind (wpAny_lookBehind hoD (by rw [hdD]; exact pastItsLine_dict (Nat.le_trans hcD (by rw [List.length_cons, List.length_nil, sizeLine_eq]; omega))) ?_)
    refine wpAny_pure ⟨_, rfl, hs h.objs.size h' _ (Nat.le_refl _) ?_ ?_ ?_⟩
    · exact (hs'.2 f hxs).trans (Heap.get?_update_self _ hx₁ rfl)
    · obtain ⟨o', es, ep, e1, e2, e3, eu, e4⟩ := hn'
      exact ⟨o', es, ep, e1, e2, e3, e4⟩
    · exact fun b o hb e => (hs'.2 b (Nat.ne_of_lt (Heap.lt_size e))).trans ((Heap.get?_update_ne _ _ _ _ hb).trans (Heap.get?_push_of_some _ e))

theorem setAttr_fn {f : Addr} {name : Str} {v : Value} {fd : FuncData} {sl : Array (Option Value)} {Q : Unit → Shared → Prop} (hmiss : typeLookup (.type "function") name = pure none)
    (hx : s.heap.get? f = some (fnObj fd none sl))
    (h : ∀ d h' tk, s.heap.objs.size ≤ d → h'.get? f = some (fnObj fd (some d) sl) → h'.Ns d (fun x => if x = name then some v else none) → (∀ b o, b ≠ f → s.heap.get? b = some o → h'.get? b = some o) → Q () { s with heap := h', toks := tk }) :
    wpAny (model prog w) A (setAttr (.ref f) name v) Q E s := by
  have hT : s.TypeIs (.ref f) "function" := ⟨_, hx, rfl⟩
  unfold setAttr
  refine wpAny_bind (wpAny_mkText (wpAny_bind (wpAny_callSpecial?_slot (T := "function") (id := "object.__setattr__") ⟨_, hx, rfl⟩ slotFnSa ?_)))
  refine call_meets slotFnSa (T := "function") ⟨_, hx, rfl⟩ F.entry_object_setattr (F.args_object_setattr_3 _ _ _) (meets_sa_fn f name _ v fd sl hmiss) ⟨hx, fun d h' tk h1 h2 h3 h4 => ?_⟩
  exact wpAny_pure (h d h' tk h1 h2 h3 h4)
end
end Mine
end PartFA
section PartC1
open PySem PySem.W PySem.Calls PySem.Spec PyProof.Rows
theorem Mine.calmC1 : True := by w_top off; k_with_none; trivial
set_option maxRecDepth 100000
namespace Mine
theorem fillK (w : World) (g : Heap) (X : (hd0.heap_39 w.params).In g) : (hd0.heap_39 w.params).In g ∧ PySem.Challenge.rw_pe0030_01 = PySem.Challenge.rw_pe0030_01 := by
  k_fill
  exact ⟨X, rfl⟩
abbrev Keep (h h' : Heap) : Prop := ∀ b o, h.get? b = some o → h'.get? b = some o
abbrev KeepB (r : Addr) (h h' : Heap) : Prop := ∀ b o, b ≠ r → h.get? b = some o → h'.get? b = some o
theorem Keep.trans {a b c : Heap} (x : Keep a b) (y : Keep b c) : Keep a c := fun q o e => y q o (x q o e)
theorem Keep.fr {g h h' : Heap} {L : Addr} {m : Str → Option Value} (k : Keep h h') (F : Fr g L h m) : Fr g L h' m := ⟨F.ns.keeps k, fun b o e => k b o (F.keep b o e), F.above⟩
theorem Keep.news {g h h' : Heap} {L : Addr} {news : List (Addr × Obj)} (k : Keep h h') (N : News g L h news) : News g L h' news := fun p hp => ⟨k _ _ (N p hp).1, (N p hp).2⟩
theorem Keep.list {h h' : Heap} {l : Addr} {a : Array Value} (k : Keep h h') (x : h.IsList l a) : h'.IsList l a := let ⟨o, e, r⟩ := x; ⟨o, k _ _ e, r⟩

section
variable {w : World} {g : Heap} {A : Around} {s : Shared} {R : Result → Shared → Prop} {name qual : Str} {params : Arguments} {body : List Stmt} {scope : Scope} {dV kV doc pm cdv ct oc : Value} {an od : Option Addr} {osl : Array (Option Value)} {f : Addr} {args : Args} {binds : List (Str × Value)}

/-- a def is entered, nothing hidden -/
theorem enterP (B : Bs w g) (kg : Keep g s.heap)
    (ho : (hd0.heap_39 w.params).lookup f = some ⟨oc, od, .func (fnOf name qual params body scope dV kV doc pm an cdv ct), osl⟩) (hcd : codeIn (hd0.heap_39 w.params) cdv qual = true) (hroom : A.depth < recursionLimit)
    (hbind : BindsTo s (fnOf name qual params body scope dV kV doc pm an cdv ct) args binds) (hloc : ∀ y ∈ binds, scope.names.lookup y.1 = some .local)
    (h : ∀ (L' : Addr) (h₁ : Heap) (loose : List Str) (mean : ExcName → Option Value) (mg mb : Str → Option Value),
      Fr s.heap L' h₁ (fun y => binds.reverse.lookup y) → News s.heap L' h₁ [] → (hd0.heap_39 w.params).In s.heap → Top topProg loose mean mg mb s.heap →
      wpAny (model PySem.Challenge.rw_pe0030_01.row.prog w) (A.deeper (envOf qual scope L' f cdv)) (execs body (envOf qual scope L' f cdv))
        (fun fl s' => R (.ok (.ret (match fl with | .ret v => v | _ => .none))) s')
        (fun _ _ => False)
        { s with heap := h₁, toks := s.toks + binds.length })
    (hco : scope.isCoroutine = false := by rfl) (hgen : scope.isGenerator = false := by rfl) (hk : scope.kind = .function := by rfl)
    (hcell : ∀ x ∈ scope.names, x.2 ≠ .cell := by decide) : codeAny (model PySem.Challenge.rw_pe0030_01.row.prog w) A (.call (.ref f) args) R s := by
  obtain ⟨loose, mean, mg, mb, T⟩ := B.T
  have X := B.X.keeps kg
  refine codeAny_call_def (fd := fnOf name qual params body scope dV kV doc pm an cdv ct) (body := body) (binds := binds) hroom (X _ _ ho) rfl (T.nolimit.keeps kg) (codeRec_of X hcd) rfl hbind hcell hloc (fun h₁ hns hk₁ => ?_) hco hgen hk
  refine wpAny_mono (?_ : wpAny _ _ _ _ (fun _ _ => False) _) (fun _ _ x => x) fun _ _ x => x.elim
  exact h s.heap.objs.size h₁ loose mean mg mb ⟨hns, hk₁, Nat.le_refl _⟩ News.nil X (T.keeps kg)

/-- a def is entered, one object r hidden, on the ledger -/
theorem enterM {r : Addr} {o : Obj} (B : Bs w g) (kg : Keep g s.heap) (hr : s.heap.get? r = some o) (hg : g.get? r = none)
    (ho : (hd0.heap_39 w.params).lookup f = some ⟨oc, od, .func (fnOf name qual params body scope dV kV doc pm an cdv ct), osl⟩) (hcd : codeIn (hd0.heap_39 w.params) cdv qual = true) (hroom : A.depth < recursionLimit)
    (hbind : BindsTo s (fnOf name qual params body scope dV kV doc pm an cdv ct) args binds) (hloc : ∀ y ∈ binds, scope.names.lookup y.1 = some .local)
    (h : ∀ (g' : Heap) (L' : Addr) (h₁ : Heap) (loose : List Str) (mean : ExcName → Option Value) (mg mb : Str → Option Value),
      Keep g g' → KeepB r s.heap g' → g'.get? r = none → Fr g' L' h₁ (fun y => binds.reverse.lookup y) → News g' L' h₁ [(r, o)] → (hd0.heap_39 w.params).In g' → Top topProg loose mean mg mb g' → r < L' →
      wpAny (model PySem.Challenge.rw_pe0030_01.row.prog w) (A.deeper (envOf qual scope L' f cdv)) (execs body (envOf qual scope L' f cdv))
        (fun fl s' => R (.ok (.ret (match fl with | .ret v => v | _ => .none))) s')
        (fun _ _ => False)
        { s with heap := h₁, toks := s.toks + binds.length })
    (hco : scope.isCoroutine = false := by rfl) (hgen : scope.isGenerator = false := by rfl) (hk : scope.kind = .function := by rfl)
    (hcell : ∀ x ∈ scope.names, x.2 ≠ .cell := by decide) : codeAny (model PySem.Challenge.rw_pe0030_01.row.prog w) A (.call (.ref f) args) R s := by
  obtain ⟨loose, mean, mg, mb, T⟩ := B.T
  have X := B.X.keeps kg
  refine codeAny_call_def (fd := fnOf name qual params body scope dV kV doc pm an cdv ct) (body := body) (binds := binds) hroom (X _ _ ho) rfl (T.nolimit.keeps kg) (codeRec_of X hcd) rfl hbind hcell hloc (fun h₁ hns hk₁ => ?_) hco hgen hk
  have gk : Keep g (s.heap.hide r) := fun b ob e => (Heap.hide_ne _ (fun q => by rw [q, hg] at e; cases e)).trans (kg b ob e)
  refine wpAny_mono (?_ : wpAny _ _ _ _ (fun _ _ => False) _) (fun _ _ x => x) fun _ _ x => x.elim
  exact h (s.heap.hide r) s.heap.objs.size h₁ loose mean mg mb gk (fun b ob n e => (Heap.hide_ne _ n).trans e) (Heap.hide_self _ _)
    ⟨hns, fun b ob e => hk₁ b ob (Heap.of_hide e), Nat.le_of_eq (Heap.hide_size _ _)⟩
    (fun p hp => by obtain rfl := List.mem_singleton.mp hp; exact ⟨hk₁ _ _ hr, Nat.ne_of_lt (Heap.lt_size hr), Heap.hide_self _ _⟩) (B.X.keeps gk) (T.keeps gk) (Heap.lt_size hr)
end

section
variable {w : World} {g : Heap} {A : Around} {s : Shared} {Q E : Value → Shared → Prop}

theorem item_step {prog : Program} {value slice : PySem.Expr} {l : Addr} {vs : List Value} {k : Int} {u : Tok} {v : Value} 
    (hl : s.heap.IsList l vs.toArray) (h0 : 0 ≤ k) (hhi : k < 2 ^ 63) (hx : vs[k.toNat]? = some v) (h : Q v s)
    (hs : subscripted slice false (.ref l) (.int k u) = operate [.ref l, .int k u] (getItem (.ref l) (.int k u)) := by with_unfolding_all rfl) :
    wpAny (model prog w) A (subscriptTail value slice (.ref l) (.int k u)) Q E s :=
  tail_any hl.typeIs slot_list_getitem.lookup (wpAny_getItem_list hl h0 hhi (by simpa using hx) h) hs

set_option maxHeartbeats 4000000 in
theorem getitem_ct {l : Addr} {vs : List Value} {ns : List Int} {k : Int} {t : Tok} (B : Bs w g) (kg : Keep g s.heap) (hd : A.depth < recursionLimit)
    (hl : s.heap.IsList l vs.toArray) (hi : IntsAre vs ns) (h0 : 0 ≤ k) (hk : k < ns.length) (hb : ns.length < 2 ^ 20)
    (ret : ∀ t' h' tk, Keep s.heap h' → Q (.int (ns.getD k.toNat 0) t') { s with heap := h', toks := tk }) : wpAny (model PySem.Challenge.rw_pe0030_01.row.prog w) A (call (.ref 42) [.ref l, .int k t]) Q E s := by
  refine wpAny_call ?_
  refine' enterP (binds := [(Str.ofString "a", .ref l), (Str.ofString "b", .int k t)]) B kg ?e3 ?e4 ?e5 ?e6 ?e7 ?_ ?c1 ?c2 ?c3 ?c4
  case e3 => k_is
  case e4 => k_is
  case e6 => exact BindsTo.of_eq rfl
  case e7 => exact locs rfl
  case c1 => rfl
  case c2 => rfl
  case c3 => rfl
  case c4 => decide
  case e5 => first | omega | (show dp < _; omega) | (show A.depth < _; omega)
  intro L' h₁ loose mean mg mb F N X T
  k_steps
  exact ret _ _ _ F.keep

set_option maxHeartbeats 4000000 in
theorem lt_ct {a b : Int} {t u : Tok} (B : Bs w g) (kg : Keep g s.heap) (hd : A.depth < recursionLimit)
    (ret : ∀ h' tk, Keep s.heap h' → Q (.bool (decide (a < b))) { s with heap := h', toks := tk }) : wpAny (model PySem.Challenge.rw_pe0030_01.row.prog w) A (call (.ref 28) [.int a t, .int b u]) Q E s := by
  refine wpAny_call ?_
  refine' enterP (binds := [(Str.ofString "a", .int a t), (Str.ofString "b", .int b u)]) B kg ?e3 ?e4 ?e5 ?e6 ?e7 ?_ ?c1 ?c2 ?c3 ?c4
  case e3 => k_is
  case e4 => k_is
  case e6 => exact BindsTo.of_eq rfl
  case e7 => exact locs rfl
  case c1 => rfl
  case c2 => rfl
  case c3 => rfl
  case c4 => decide
  case e5 => first | omega | (show dp < _; omega) | (show A.depth < _; omega)
  intro L' h₁ loose mean mg mb F N X T
  k_steps
  exact ret _ _ F.keep

set_option maxHeartbeats 4000000 in
theorem gt_ct {a b : Int} {t u : Tok} (B : Bs w g) (kg : Keep g s.heap) (hd : A.depth < recursionLimit)
    (ret : ∀ h' tk, Keep s.heap h' → Q (.bool (decide (b < a))) { s with heap := h', toks := tk }) : wpAny (model PySem.Challenge.rw_pe0030_01.row.prog w) A (call (.ref 35) [.int a t, .int b u]) Q E s := by
  refine wpAny_call ?_
  refine' enterP (binds := [(Str.ofString "a", .int a t), (Str.ofString "b", .int b u)]) B kg ?e3 ?e4 ?e5 ?e6 ?e7 ?_ ?c1 ?c2 ?c3 ?c4
  case e3 => k_is
  case e4 => k_is
  case e6 => exact BindsTo.of_eq rfl
  case e7 => exact locs rfl
  case c1 => rfl
  case c2 => rfl
  case c3 => rfl
  case c4 => decide
  case e5 => first | omega | (show dp < _; omega) | (show A.depth < _; omega)
  intro L' h₁ loose mean mg mb F N X T
  k_steps
  exact ret _ _ F.keep

set_option maxHeartbeats 4000000 in
theorem setitem_ct {r : Addr} {vs : List Value} {ns : List Int} {n : Nat} {k x : Int} {t u : Tok} (B : Bs w g) (kg : Keep g s.heap) (hd : A.depth < recursionLimit)
    (hr : s.heap.get? r = some (listOf vs.toArray n)) (hg : g.get? r = none) (hi : IntsAre vs ns) (h0 : 0 ≤ k) (hk : k < ns.length) (hb : ns.length < 2 ^ 20)
    (ret : ∀ h' tk, KeepB r s.heap h' → h'.get? r = some (listOf (vs.set k.toNat (.int x u)).toArray n) → Q .none { s with heap := h', toks := tk }) : wpAny (model PySem.Challenge.rw_pe0030_01.row.prog w) A (call (.ref 49) [.ref r, .int k t, .int x u]) Q E s := by
  refine wpAny_call ?_
  refine' enterM (binds := [(Str.ofString "a", .ref r), (Str.ofString "b", .int k t), (Str.ofString "c", .int x u)]) B kg hr hg ?e3 ?e4 ?e5 ?e6 ?e7 ?_ ?c1 ?c2 ?c3 ?c4
  case e3 => k_is
  case e4 => k_is
  case e6 => exact BindsTo.of_eq rfl
  case e7 => exact locs rfl
  case c1 => rfl
  case c2 => rfl
  case c3 => rfl
  case c4 => decide
  case e5 => first | omega | (show dp < _; omega) | (show A.depth < _; omega)
  intro g' L' h₁ loose mean mg mb gk gs gn F N X T lt
  k_steps
  rename_i h' F' N' hi' hl' hs'
  exact ret _ _ (fun b o n e => F'.keep b o (gs b o n e)) (N' _ (.head _)).1

/-- the list of ints at r -/
def RowAt (h : Heap) (r : Addr) (ns : List Int) : Prop := ∃ vs n, h.get? r = some (listOf vs.toArray n) ∧ IntsAre vs ns
theorem RowAt.list {h : Heap} {r : Addr} {ns : List Int} (x : RowAt h r ns) : ∃ vs, h.IsList r vs.toArray ∧ IntsAre vs ns := by
  obtain ⟨vs, n, e, i⟩ := x
  exact ⟨vs, ⟨_, e, rfl, n, rfl⟩, i⟩
def swapAt (ns : List Int) (i j : Nat) : List Int := (ns.set i (ns.getD j 0)).set j (ns.getD i 0)

section
variable {g' : Heap} {L : Addr} {m : Str → Option Value} {news : List (Addr × Obj)}
theorem getitem_K {l : Addr} {vs : List Value} {n : Nat} {ns : List Int} {k : Int} {t : Tok} (B : Bs w g) (gk : Keep g g') (F : Fr g' L s.heap m) (N : News g' L s.heap news) (hd : A.depth < recursionLimit)
    (hm : (l, listOf vs.toArray n) ∈ news) (hi : IntsAre vs ns) (h0 : 0 ≤ k) (hk : k < ns.length) (hb : ns.length < 2 ^ 20)
    (ret : ∀ t' h' tk, Fr g' L h' m → News g' L h' news → Q (.int (ns.getD k.toNat 0) t') { s with heap := h', toks := tk }) : wpAny (model PySem.Challenge.rw_pe0030_01.row.prog w) A (call (.ref 42) [.ref l, .int k t]) Q E s :=
  getitem_ct B (gk.trans F.keep) hd ⟨_, (N _ hm).1, rfl, n, rfl⟩ hi h0 hk hb fun t' h' tk kp => ret t' h' tk (kp.fr F) (kp.news N)
theorem setitem_K {r : Addr} {vs : List Value} {ns : List Int} {n : Nat} {k x : Int} {t u : Tok} (B : Bs w g) (gk : Keep g g') (F : Fr g' L s.heap m) (N : News g' L s.heap [(r, listOf vs.toArray n)]) (hd : A.depth < recursionLimit)
    (hi : IntsAre vs ns) (h0 : 0 ≤ k) (hk : k < ns.length) (hb : ns.length < 2 ^ 20)
    (ret : ∀ h' tk, Fr g' L h' m → News g' L h' [(r, listOf (vs.set k.toNat (.int x u)).toArray n)] → Q .none { s with heap := h', toks := tk }) : wpAny (model PySem.Challenge.rw_pe0030_01.row.prog w) A (call (.ref 49) [.ref r, .int k t, .int x u]) Q E s := by
  have hr := N _ (.head _)
  refine setitem_ct B (gk.trans F.keep) hd hr.1 ?_ hi h0 hk hb fun h' tk kp e => ret h' tk ⟨?_, fun b o eb => kp b o ?_ (F.keep b o eb), F.above⟩ ?_
  · cases q : g.get? r with
    | none => rfl
    | some o => have := gk _ _ q; rw [hr.2.2] at this; cases this
  · obtain ⟨o, es, ep, e', r'⟩ := F.ns
    exact ⟨o, es, ep, kp _ _ (Ne.symm hr.2.1) e', r'⟩
  · intro q; subst q; have hq := hr.2.2; dsimp only at hq; rw [hq] at eb; cases eb
  · intro p hp
    obtain rfl := List.mem_singleton.mp hp
    exact ⟨e, hr.2⟩
end

set_option maxHeartbeats 4000000 in
theorem exchange_ct {r : Addr} {ns : List Int} {i j : Int} {t u : Tok} (B : Bs w g) (kg : Keep g s.heap) (hd : A.depth + 1 < recursionLimit)
    (hr : RowAt s.heap r ns) (hg : g.get? r = none) (h0 : 0 ≤ i) (hk : i < ns.length) (h0' : 0 ≤ j) (hk' : j < ns.length) (hb : ns.length < 2 ^ 20)
    (ret : ∀ h' tk, KeepB r s.heap h' → RowAt h' r (swapAt ns i.toNat j.toNat) → Q .none { s with heap := h', toks := tk }) : wpAny (model PySem.Challenge.rw_pe0030_01.row.prog w) A (call (.ref 77) [.ref r, .int i t, .int j u]) Q E s := by
  obtain ⟨vs, n, hr, hi⟩ := hr
  refine wpAny_call ?_
  refine' enterM (binds := [(Str.ofString "row", .ref r), (Str.ofString "i", .int i t), (Str.ofString "j", .int j u)]) B kg hr hg ?e3 ?e4 ?e5 ?e6 ?e7 ?_ ?c1 ?c2 ?c3 ?c4
  case e3 => k_is
  case e4 => k_is
  case e6 => exact BindsTo.of_eq rfl
  case e7 => exact locs rfl
  case c1 => rfl
  case c2 => rfl
  case c3 => rfl
  case c4 => decide
  case e5 => first | omega | (show dp < _; omega) | (show A.depth < _; omega)
  intro g' L' h₁ loose mean mg mb gk gs gn F N X T lt
  k_steps
  refine getitem_K B gk F N (by show A.depth + 1 < _; omega) (.head _) hi h0 hk hb ?_
  intro t1 h2 tk2 F2 N2
  (try dsimp only)
  (try k_sweep)
  k_steps
  rename_i F3 N3
  refine getitem_K B gk F3 N3 (by show A.depth + 1 < _; omega) (.head _) hi h0' hk' hb ?_
  intro t4 h4 tk4 F4 N4
  (try dsimp only)
  (try k_sweep)
  k_steps
  refine setitem_K (n := n) B gk F4 N4 (by show A.depth + 1 < _; omega) hi h0 hk hb ?_
  intro h5 tk5 F5 N5
  (try dsimp only)
  (try k_sweep)
  k_steps
  have hi6 := ints_set (x := ns.getD j.toNat 0) (u := t4) hi i.toNat
  refine setitem_K (n := n) B gk F5 N5 (by show A.depth + 1 < _; omega) hi6 h0' (by rw [List.length_set]; exact hk') (by rw [List.length_set]; exact hb) ?_
  intro h6 tk6 F6 N6
  (try dsimp only)
  (try k_sweep)
  k_steps
  exact ret _ _ (fun b o n e => F6.keep b o (gs b o n e)) ⟨_, n, (N6 _ (.head _)).1, ints_set hi6 _⟩
end
end Mine
end PartC1
section PartPL1
namespace Mine
/-- the ways to lay the first k things -/
def waysUp (ns : List Int) : Nat → Int
  | 0 => 1
  | k + 1 => Int.fdiv (waysUp ns k * ((k : Int) + 1)) (((ns.take (k + 1)).count (ns.getD k 0) : Nat) : Int)
def WInv (ns : List Int) (k : Nat) (x : Int) : Prop := x = waysUp ns k ∧ 0 ≤ x ∧ x ≤ 5 ^ k
theorem WInv.start (ns : List Int) : WInv ns 0 1 := ⟨rfl, by omega, by omega⟩
theorem count_pos_at {ns : List Int} {k : Nat} (hk : k < ns.length) : 1 ≤ (ns.take (k + 1)).count (ns.getD k 0) := by
  refine List.count_pos_iff.mpr ?_
  have : ns.getD k 0 = ns[k] := by simp [List.getD_eq_getElem?_getD, hk]
  rw [this]
  refine List.mem_iff_getElem.mpr ⟨k, by rw [List.length_take]; omega, ?_⟩
  simp
theorem WInv.step {ns : List Int} {k : Nat} {x : Int} (h : WInv ns k x) (hk : k < ns.length) (h5 : k < 5) :
    WInv ns (k + 1) (Int.fdiv (x * ((k : Int) + 1)) (((ns.take (k + 1)).count (ns.getD k 0) : Nat) : Int)) := by
  obtain ⟨e, h0, h1⟩ := h
  have hc := count_pos_at hk
  generalize hcd : (ns.take (k + 1)).count (ns.getD k 0) = c at hc
  have hm : 0 ≤ x * ((k : Int) + 1) := Int.mul_nonneg h0 (by omega)
  have hf : Int.fdiv (x * ((k : Int) + 1)) (c : Int) = (x * ((k : Int) + 1)) / (c : Int) := Int.fdiv_eq_ediv_of_nonneg _ (by omega)
  refine ⟨?_, ?_, ?_⟩
  · rw [e, waysUp, hcd]
  · rw [hf]; exact Int.ediv_nonneg hm (by omega)
  · rw [hf]
    have h2 : (x * ((k : Int) + 1)) / (c : Int) ≤ x * ((k : Int) + 1) := Int.ediv_le_self _ hm
    have h3 : x * ((k : Int) + 1) ≤ 5 ^ k * 5 := Int.mul_le_mul h1 (by omega) (by omega) (by exact Int.pow_nonneg (by omega))
    have h4 : (5 : Int) ^ (k + 1) = 5 ^ k * 5 := Int.pow_succ ..
    omega
theorem WInv.small {ns : List Int} {k : Nat} {x : Int} (h : WInv ns k x) (h5 : k ≤ 5) : 0 ≤ x ∧ x ≤ 3125 := by
  refine ⟨h.2.1, Int.le_trans h.2.2 ?_⟩
  have : k = 0 ∨ k = 1 ∨ k = 2 ∨ k = 3 ∨ k = 4 ∨ k = 5 := by omega
  rcases this with rfl | rfl | rfl | rfl | rfl | rfl <;> decide
theorem WInv.turn {ns pre : List Int} {k x : Int} (h : WInv ns pre.length x) (hk : k = 0 + (pre.length : Int)) (hlt : pre.length < ((ns.length : Int) - 0).toNat) (h5 : ns.length ≤ 5) :
    WInv ns (pre ++ [k]).length (Int.fdiv (x * (k + 1)) ((List.count (ns.getD k.toNat 0) (List.take (k + 1).toNat ns) : Nat) : Int)) := by
  have e1 : k.toNat = pre.length := by omega
  have e2 : (k + 1).toNat = pre.length + 1 := by omega
  have e3 : k + 1 = (pre.length : Int) + 1 := by omega
  rw [e1, e2, e3, List.length_append]
  exact h.step (by omega) (by omega)
theorem WInv.prod {ns pre : List Int} {k x : Int} (h : WInv ns pre.length x) (hk : k = 0 + (pre.length : Int)) (hlt : pre.length < ((ns.length : Int) - 0).toNat) (h5 : ns.length ≤ 5) : 0 ≤ x * (k + 1) ∧ x * (k + 1) ≤ 15625 := by
  have hb := h.small (by omega)
  have h1 : x * (k + 1) ≤ 3125 * 5 := Int.mul_le_mul hb.2 (by omega) (by omega) (by omega)
  have h2 : 0 ≤ x * (k + 1) := Int.mul_nonneg hb.1 (by omega)
  omega
theorem count_small {ns : List Int} {a : Int} {j : Nat} (h5 : ns.length ≤ 5) : ((List.count a (List.take j ns) : Nat) : Int).natAbs < 1073741824 := by
  have h1 : List.count a (List.take j ns) ≤ (List.take j ns).length := List.count_le_length
  rw [List.length_take] at h1
  omega
theorem count_ne {ns pre : List Int} {k : Int} (hk : k = 0 + (pre.length : Int)) (hlt : pre.length < ((ns.length : Int) - 0).toNat) :
    ((List.count (ns.getD k.toNat 0) (List.take (k + 1).toNat ns) : Nat) : Int) ≠ 0 := by
  have e1 : k.toNat = pre.length := by omega
  have e2 : (k + 1).toNat = pre.length + 1 := by omega
  rw [e1, e2]
  have := count_pos_at (ns := ns) (k := pre.length) (by omega)
  omega
/-- of left: the ways behind each less thing that did not stand before, the first j looked at -/
def innerUp (left : List Int) (x : Int) : Nat → Int
  | 0 => 0
  | j + 1 => if left.getD j 0 < x ∧ left.getD j 0 ∉ left.take j then innerUp left x j + waysUp (left.take j ++ left.drop (j + 1)) (left.take j ++ left.drop (j + 1)).length else innerUp left x j
def numUp (ns : List Int) : Nat → Int
  | 0 => 0
  | k + 1 => numUp ns k + innerUp (ns.drop k) (ns.getD k 0) (ns.drop k).length
def NInv (ns : List Int) (k : Nat) (x : Int) : Prop := x = numUp ns k
def IInv (ns : List Int) (k : Nat) (left : List Int) (y : Int) (j : Nat) (x : Int) : Prop := x = numUp ns k + innerUp left y j
theorem any_beq_mem {l : List Int} {a : Int} : (l.any fun x => x == a) = true ↔ a ∈ l := by
  rw [List.any_eq_true]
  constructor
  · rintro ⟨x, hx, e⟩
    rw [← eq_of_beq e]; exact hx
  · exact fun h => ⟨a, h, beq_self_eq_true a⟩
theorem IInv.skip1 {ns left pre : List Int} {k : Nat} {y x j : Int} (h : IInv ns k left y pre.length x) (hj : j = 0 + (pre.length : Int)) (hn : ¬ left.getD j.toNat 0 < y) : IInv ns k left y (pre ++ [j]).length x := by
  have e1 : j.toNat = pre.length := by omega
  rw [e1] at hn
  unfold IInv at *
  rw [List.length_append, List.length_singleton, innerUp, if_neg (fun q => hn q.1)]
  exact h
theorem IInv.skip2 {ns left pre : List Int} {k : Nat} {y x j : Int} (h : IInv ns k left y pre.length x) (hj : j = 0 + (pre.length : Int)) (hn : ((left.take j.toNat).any fun x => x == left.getD j.toNat 0) = true) : IInv ns k left y (pre ++ [j]).length x := by
  have e1 : j.toNat = pre.length := by omega
  rw [e1] at hn
  unfold IInv at *
  rw [List.length_append, List.length_singleton, innerUp, if_neg (fun q => q.2 (any_beq_mem.mp hn))]
  exact h
theorem IInv.add {ns left pre : List Int} {k : Nat} {y x j : Int} (h : IInv ns k left y pre.length x) (hj : j = 0 + (pre.length : Int)) (h1 : left.getD j.toNat 0 < y) (hn : ((left.take j.toNat).any fun x => x == left.getD j.toNat 0) = false) :
    IInv ns k left y (pre ++ [j]).length (x + waysUp (left.take j.toNat ++ left.drop (j + 1).toNat) (left.take j.toNat ++ left.drop (j + 1).toNat).length) := by
  have e1 : j.toNat = pre.length := by omega
  have e2 : (j + 1).toNat = pre.length + 1 := by omega
  rw [e1] at hn h1
  rw [e1, e2]
  unfold IInv at *
  rw [show (pre ++ [j]).length = pre.length + 1 by simp, innerUp, if_pos ⟨h1, fun q => by rw [any_beq_mem.mpr q] at hn; cases hn⟩, h]
  omega
theorem rem_len {left : List Int} {j : Int} (h : left.length ≤ 5) (h0 : 0 ≤ j) : (left.take j.toNat ++ left.drop (j + 1).toNat).length ≤ 5 := by
  rw [List.length_append, List.length_take, List.length_drop]
  omega
theorem IInv.out {ns left pre : List Int} {k : Nat} {x : Int} {kN : Int} (hk : kN = 0 + (pre.length : Int)) (hl : left = ns.drop kN.toNat) (h : IInv ns pre.length left (ns.getD kN.toNat 0) k x) (hn : k = left.length) : NInv ns (pre ++ [kN]).length x := by
  have e1 : kN.toNat = pre.length := by omega
  subst hn
  subst hl
  rw [e1] at h
  unfold NInv
  unfold IInv at h
  rw [List.length_append, List.length_singleton, numUp]
  exact h
/-- the first of lo, lo + 1 .. (n of them) of which p holds -/
def firstFrom (p : Int → Bool) (lo : Int) : Nat → Option Int
  | 0 => none
  | n + 1 => if p lo then some lo else firstFrom p (lo + 1) n
theorem firstFrom_none {p : Int → Bool} : ∀ {n : Nat} {lo : Int}, (∀ i : Nat, i < n → p (lo + i) = false) → firstFrom p lo n = none
  | 0, _, _ => rfl
  | n + 1, lo, h => by
    have h0 : p lo = false := by have := h 0 (by omega); simpa using this
    rw [firstFrom, h0, if_neg Bool.false_ne_true]
    exact firstFrom_none fun i hi => by have := h (i + 1) (by omega); rw [← this]; congr 1; omega
theorem firstFrom_some {p : Int → Bool} : ∀ {n : Nat} {lo : Int} {j : Nat}, (∀ i : Nat, i < j → p (lo + i) = false) → j < n → p (lo + j) = true → firstFrom p lo n = some (lo + j)
  | 0, _, _, _, h, _ => absurd h (Nat.not_lt_zero _)
  | n + 1, lo, 0, _, _, h2 => by
    have h0 : p lo = true := by simpa using h2
    rw [firstFrom, h0, if_pos rfl]
    simp
  | n + 1, lo, j + 1, h, h1, h2 => by
    have h0 : p lo = false := by have := h 0 (by omega); simpa using this
    rw [firstFrom, h0, if_neg Bool.false_ne_true]
    rw [firstFrom_some (j := j) (fun i hi => by have := h (i + 1) (by omega); rw [← this]; congr 1; omega) (by omega) (by rw [← h2]; congr 1; omega)]
    congr 1; omega
def relB (back : Bool) (a b : Int) : Bool := if back then decide (b < a) else decide (a < b)
def turnP (back : Bool) (ns : List Int) (k : Int) : Bool := relB back (ns.getD (k - 1).toNat 0) (ns.getD k.toNat 0)
def beyP (back : Bool) (x : Int) (ns : List Int) (k : Int) : Bool := relB back x (ns.getD k.toNat 0)
def turnF (back : Bool) (ns : List Int) (place : Int) : Option (Int × Int) := (firstFrom (turnP back ns) (if place > 1 then place else 1) ((ns.length : Int) - (if place > 1 then place else 1)).toNat).map fun k => (k, k)
def beyF (back : Bool) (x : Int) (ns : List Int) (place : Int) : Option (Int × Int) := (firstFrom (beyP back x ns) place ((ns.length : Int) - place).toNat).map fun k => (k, k + 1)
def NoneYet (p : Int → Bool) (lo : Int) (k : Nat) : Prop := ∀ i : Nat, i < k → p (lo + i) = false
theorem NoneYet.start (p : Int → Bool) (lo : Int) : NoneYet p lo 0 := fun _ h => absurd h (Nat.not_lt_zero _)
theorem NoneYet.step {p : Int → Bool} {lo k : Int} {pre : List Int} (h : NoneYet p lo pre.length) (hk : k = lo + (pre.length : Int)) (hp : p k = false) : NoneYet p lo (pre ++ [k]).length := by
  rw [show (pre ++ [k]).length = pre.length + 1 by simp]
  intro i hi
  rcases Nat.lt_or_ge i pre.length with h1 | h1
  · exact h i h1
  · rw [← hp, hk]; congr 1; omega
theorem turnF_some {back : Bool} {ns pre : List Int} {place k : Int} (h : NoneYet (turnP back ns) (if place > 1 then place else 1) pre.length) (hk : k = (if place > 1 then place else 1) + (pre.length : Int))
    (hlt : pre.length < ((ns.length : Int) - (if place > 1 then place else 1)).toNat) (hp : turnP back ns k = true) : turnF back ns place = some (k, k) := by
  unfold turnF
  rw [firstFrom_some h hlt (by rw [← hk]; exact hp), ← hk]
  rfl
theorem turnF_none {back : Bool} {ns : List Int} {place : Int} {n : Nat} (h : NoneYet (turnP back ns) (if place > 1 then place else 1) n) (hn : n = ((ns.length : Int) - (if place > 1 then place else 1)).toNat) : turnF back ns place = none := by
  subst hn
  unfold turnF
  rw [firstFrom_none h]
  rfl
theorem beyF_some {back : Bool} {x : Int} {ns pre : List Int} {place k : Int} (h : NoneYet (beyP back x ns) place pre.length) (hk : k = place + (pre.length : Int))
    (hlt : pre.length < ((ns.length : Int) - place).toNat) (hp : beyP back x ns k = true) : beyF back x ns place = some (k, k + 1) := by
  unfold beyF
  rw [firstFrom_some h hlt (by rw [← hk]; exact hp), ← hk]
  rfl
theorem beyF_none {back : Bool} {x : Int} {ns : List Int} {place : Int} {n : Nat} (h : NoneYet (beyP back x ns) place n) (hn : n = ((ns.length : Int) - place).toNat) : beyF back x ns place = none := by
  subst hn
  unfold beyF
  rw [firstFrom_none h]
  rfl
/-- the finder tells the first place from place (and from lo) of which pr holds, e wide -/
def FindsP (fnd : Int → Option (Int × Int)) (pr : Int → Bool) (e lo : Int) : Prop := (e = 0 ∨ e = 1) ∧ 0 ≤ lo ∧ ∀ place, 0 ≤ place →
  (fnd place = none ∧ ∀ k, lo ≤ k → place ≤ k → k ≤ 4 → pr k = false) ∨ (∃ k, fnd place = some (k, k + e) ∧ lo ≤ k ∧ place ≤ k ∧ k ≤ 4 ∧ pr k = true ∧ ∀ k', lo ≤ k' → place ≤ k' → k' < k → pr k' = false)
/-- the last place below col of which pr holds -/
def LastIs (pr : Int → Bool) (lo e col : Int) (res : Option (Int × Int)) : Prop :=
  (res = none ∧ ∀ k, lo ≤ k → k < col → k ≤ 4 → pr k = false) ∨ (∃ k, res = some (k, k + e) ∧ lo ≤ k ∧ k < col ∧ k ≤ 4 ∧ pr k = true ∧ ∀ k', k < k' → k' < col → k' ≤ 4 → pr k' = false)
theorem turnF_finds (back : Bool) (ns : List Int) (h : ns.length = 5) : FindsP (turnF back ns) (turnP back ns) 0 1 := by
  refine ⟨.inl rfl, by omega, fun place h0 => ?_⟩
  have key : ∀ (n : Nat) (lo : Int), (firstFrom (turnP back ns) lo n = none ∧ ∀ k, lo ≤ k → k < lo + n → turnP back ns k = false) ∨ (∃ k, firstFrom (turnP back ns) lo n = some k ∧ lo ≤ k ∧ k < lo + n ∧ turnP back ns k = true ∧ ∀ k', lo ≤ k' → k' < k → turnP back ns k' = false) := by
    intro n
    induction n with
    | zero => exact fun lo => .inl ⟨rfl, fun k h1 h2 => by omega⟩
    | succ n ih =>
      intro lo
      rw [firstFrom]
      cases hp : turnP back ns lo with
      | true => exact .inr ⟨lo, by rw [if_pos rfl], by omega, by omega, hp, fun k' h1 h2 => by omega⟩
      | false =>
        rw [if_neg Bool.false_ne_true]
        rcases ih (lo + 1) with ⟨e, h1⟩ | ⟨k, e, h1, h2, h3, h4⟩
        · refine .inl ⟨e, fun k a b => ?_⟩
          by_cases q : k = lo
          · rw [q]; exact hp
          · exact h1 k (by omega) (by omega)
        · refine .inr ⟨k, e, by omega, by omega, h3, fun k' a b => ?_⟩
          by_cases q : k' = lo
          · rw [q]; exact hp
          · exact h4 k' (by omega) b
  unfold turnF
  rcases key ((ns.length : Int) - (if place > 1 then place else 1)).toNat (if place > 1 then place else 1) with ⟨e, h1⟩ | ⟨k, e, h1, h2, h3, h4⟩
  · refine .inl ⟨by rw [e]; rfl, fun k a b c => h1 k ?_ ?_⟩
    · split <;> omega
    · split <;> omega
  · refine .inr ⟨k, by rw [e]; simp, ?_, ?_, ?_, h3, fun k' a b c => h4 k' ?_ c⟩
    · split at h1 <;> omega
    · split at h1 <;> omega
    · split at h2 <;> omega
    · split <;> omega
theorem beyF_finds (back : Bool) (x : Int) (ns : List Int) (h : ns.length = 5) : FindsP (beyF back x ns) (beyP back x ns) 1 0 := by
  refine ⟨.inr rfl, by omega, fun place h0 => ?_⟩
  have key : ∀ (n : Nat) (lo : Int), (firstFrom (beyP back x ns) lo n = none ∧ ∀ k, lo ≤ k → k < lo + n → beyP back x ns k = false) ∨ (∃ k, firstFrom (beyP back x ns) lo n = some k ∧ lo ≤ k ∧ k < lo + n ∧ beyP back x ns k = true ∧ ∀ k', lo ≤ k' → k' < k → beyP back x ns k' = false) := by
    intro n
    induction n with
    | zero => exact fun lo => .inl ⟨rfl, fun k h1 h2 => by omega⟩
    | succ n ih =>
      intro lo
      rw [firstFrom]
      cases hp : beyP back x ns lo with
      | true => exact .inr ⟨lo, by rw [if_pos rfl], by omega, by omega, hp, fun k' h1 h2 => by omega⟩
      | false =>
        rw [if_neg Bool.false_ne_true]
        rcases ih (lo + 1) with ⟨e, h1⟩ | ⟨k, e, h1, h2, h3, h4⟩
        · refine .inl ⟨e, fun k a b => ?_⟩
          by_cases q : k = lo
          · rw [q]; exact hp
          · exact h1 k (by omega) (by omega)
        · refine .inr ⟨k, e, by omega, by omega, h3, fun k' a b => ?_⟩
          by_cases q : k' = lo
          · rw [q]; exact hp
          · exact h4 k' (by omega) b
  unfold beyF
  rcases key ((ns.length : Int) - place).toNat place with ⟨e, h1⟩ | ⟨k, e, h1, h2, h3, h4⟩
  · exact .inl ⟨by rw [e]; rfl, fun k a b c => h1 k b (by omega)⟩
  · exact .inr ⟨k, by rw [e]; simp, by omega, h1, by omega, h3, fun k' a b c => h4 k' b c⟩
def SrInv (pr : Int → Bool) (lo e col k : Int) (res : Option (Int × Int)) : Prop := lo ≤ k ∧ k ≤ 4 ∧ pr k = true ∧
  ((res = none ∧ ∀ k', lo ≤ k' → k' < k → pr k' = false) ∨ ∃ k0, res = some (k0, k0 + e) ∧ lo ≤ k0 ∧ k0 < col ∧ k0 < k ∧ pr k0 = true ∧ ∀ k', k0 < k' → k' < k → pr k' = false)
theorem SrInv.out {pr : Int → Bool} {lo e col k : Int} {res : Option (Int × Int)} (h : SrInv pr lo e col k res) (hk : col ≤ k) : LastIs pr lo e col res := by
  obtain ⟨h1, h2, h3, ⟨r, h4⟩ | ⟨k0, r, a, b, c, d, f⟩⟩ := h
  · exact .inl ⟨r, fun k' x y z => h4 k' x (by omega)⟩
  · exact .inr ⟨k0, r, a, b, by omega, d, fun k' x y z => f k' x (by omega)⟩
theorem SrInv.last {pr : Int → Bool} {lo e col k : Int} {res : Option (Int × Int)} (h : SrInv pr lo e col k res) (hk : k < col) (hn : ∀ k', lo ≤ k' → k + 1 ≤ k' → k' ≤ 4 → pr k' = false) : LastIs pr lo e col (some (k, k + e)) := by
  obtain ⟨h1, h2, h3, _⟩ := h
  exact .inr ⟨k, rfl, h1, hk, h2, h3, fun k' x y z => hn k' (by omega) (by omega) z⟩
theorem SrInv.next {pr : Int → Bool} {lo e col k k2 : Int} {res : Option (Int × Int)} (h : SrInv pr lo e col k res) (hk : k < col) (a : k + 1 ≤ k2) (b : k2 ≤ 4) (c : pr k2 = true) (hn : ∀ k', lo ≤ k' → k + 1 ≤ k' → k' < k2 → pr k' = false) : SrInv pr lo e col k2 (some (k, k + e)) := by
  obtain ⟨h1, h2, h3, _⟩ := h
  exact ⟨by omega, b, c, .inr ⟨k, rfl, h1, hk, by omega, h3, fun k' x y => hn k' (by omega) (by omega) y⟩⟩
end Mine
end PartPL1
section PartC2
open PySem PySem.W PySem.Calls PySem.Spec PyProof.Rows
theorem Mine.calmC2 : True := by w_top off; k_with_none; trivial
set_option maxRecDepth 100000
namespace Mine
theorem fillK2 (w : World) (g : Heap) (X : (hd0.heap_39 w.params).In g) : (hd0.heap_39 w.params).In g ∧ PySem.Challenge.rw_pe0030_01 = PySem.Challenge.rw_pe0030_01 := by
  k_fill
  exact ⟨X, rfl⟩
local macro_rules | `(tactic| tb_start) => `(tactic| repeat' (first | ((fail_if_success (with_reducible show wpAny _ _ (pyIter _) _ _ _)); (first | (k_unfold; (try dsimp only)) | (k_end; wrow_close) | walk1 | (dsimp only; walk1) | (leave1; walk_say "STEP leave1"; try dsimp only))) | fail "no step"))
section
variable {w : World} {g : Heap} {A : Around} {s : Shared} {Q E : Value → Shared → Prop}
set_option maxHeartbeats 4000000 in
theorem ways_ct {l : Addr} {vs : List Value} {ns : List Int} (B : Bs w g) (kg : Keep g s.heap) (hh : A.handled = none) (hd : A.depth < recursionLimit) (hu : A.units + 100 < cLine)
    (hl : s.heap.IsList l vs.toArray) (hi : IntsAre vs ns) (hlen : ns.length ≤ 5)
    (ret : ∀ t' h' tk, Keep s.heap h' → Q (.int (waysUp ns ns.length) t') { s with heap := h', toks := tk }) : wpAny (model PySem.Challenge.rw_pe0030_01.row.prog w) A (call (.ref 84) [.ref l]) Q E s := by
  obtain ⟨ha, dp, fr, gd, un⟩ := A
  obtain rfl : ha = none := hh
  dsimp only at hd hu
  refine wpAny_call ?_
  refine' enterP (binds := [(Str.ofString "things", .ref l)]) B kg ?e3 ?e4 ?e5 ?e6 ?e7 ?_ ?c1 ?c2 ?c3 ?c4
  case e3 => k_is
  case e4 => k_is
  case e6 => exact BindsTo.of_eq rfl
  case e7 => exact locs rfl
  case c1 => rfl
  case c2 => rfl
  case c3 => rfl
  case c4 => decide
  case e5 => omega
  intro L' h₁ loose mean mg mb F N X T
  k_with_none
  (k_with "state" => first | exact WInv.start ns | exact WInv.turn (by assumption) (by assumption) (by assumption) hlen)
  tb_start
  k_state (fun pre ways => WInv ns pre.length ways) "ways"
  · have hb := kInv.small (by omega)
    have hm := kInv.prod (by assumption) (by assumption) hlen
    tb_start
    refine floordiv_int (count_ne (by assumption) (by assumption)) ?_ (Or.inl (PyProof.noPylong_small (count_small hlen)))
    tb_start
  · tb_start
    rw [show ((ns.length : Int) - 0).toNat = ns.length by omega] at kInv
    rw [rangeKs_length] at kInv
    obtain ⟨e, _⟩ := kInv
    subst e
    exact ret _ _ _ kFr.keep
  k_with_none
end
end Mine
end PartC2
section PartC3
open PySem PySem.W PySem.Calls PySem.Spec PyProof.Rows
theorem Mine.calmC3 : True := by w_top off; k_with_none; trivial
set_option maxRecDepth 100000
namespace Mine
theorem fillK3 (w : World) (g : Heap) (X : (hd0.heap_39 w.params).In g) : (hd0.heap_39 w.params).In g ∧ PySem.Challenge.rw_pe0030_01 = PySem.Challenge.rw_pe0030_01 := by
  k_fill
  exact ⟨X, rfl⟩
local macro_rules | `(tactic| kmk_nums) => `(tactic| first | ((with_reducible refine' kmk_from ?gi ?gx); (case gi => l_ints); (case gx => omega)) | ((with_reducible refine' kmk_upto ?gi ?gx); (case gi => l_ints); (case gx => omega)))
local macro_rules | `(tactic| tb_start) => `(tactic| repeat' (first | ((fail_if_success (with_reducible show wpAny _ _ (pyIter _) _ _ _)); (fail_if_success (with_reducible show InvPostN _ _ _ _ _ _ _ _ _)); (fail_if_success (with_reducible show InvEndN _ _ _ _ _ _ _)); (first | (k_unfold; (try dsimp only)) | (k_end; wrow_close) | walk1 | (dsimp only; walk1) | (leave1; walk_say "STEP leave1"; try dsimp only))) | fail "no step"))
section
variable {w : World} {g : Heap} {A : Around} {s : Shared} {Q E : Value → Shared → Prop}
theorem ways_K {h₀ : Heap} {L : Addr} {m : Str → Option Value} {news : List (Addr × Obj)} {l : Addr} {vs : List Value} {n : Nat} {ns : List Int} (B : Bs w g) (gk : Keep g h₀) (F : Fr h₀ L s.heap m) (N : News h₀ L s.heap news) (hh : A.handled = none) (hd : A.depth < recursionLimit) (hu : A.units + 100 < cLine)
    (hm : (l, listOf vs.toArray n) ∈ news) (hi : IntsAre vs ns) (hlen : ns.length ≤ 5)
    (ret : ∀ t' h' tk, Fr h₀ L h' m → News h₀ L h' news → Q (.int (waysUp ns ns.length) t') { s with heap := h', toks := tk }) : wpAny (model PySem.Challenge.rw_pe0030_01.row.prog w) A (call (.ref 84) [.ref l]) Q E s :=
  ways_ct B (gk.trans F.keep) hh hd hu ⟨_, (N _ hm).1, rfl, n, rfl⟩ hi hlen fun t' h' tk kp => ret t' h' tk (kp.fr F) (kp.news N)
set_option maxHeartbeats 4000000 in
theorem number_ct {l : Addr} {vs : List Value} {ns : List Int} (B : Bs w g) (kg : Keep g s.heap) (hh : A.handled = none) (hd : A.depth + 1 < recursionLimit) (hu : A.units + 200 < cLine)
    (hl : s.heap.IsList l vs.toArray) (hi : IntsAre vs ns) (hlen : ns.length ≤ 5)
    (ret : ∀ t' h' tk, Keep s.heap h' → Q (.int (numUp ns ns.length) t') { s with heap := h', toks := tk }) : wpAny (model PySem.Challenge.rw_pe0030_01.row.prog w) A (call (.ref 91) [.ref l]) Q E s := by
  obtain ⟨ha, dp, fr, gd, un⟩ := A
  obtain rfl : ha = none := hh
  dsimp only at hd hu
  refine wpAny_call ?_
  refine' enterP (binds := [(Str.ofString "things", .ref l)]) B kg ?e3 ?e4 ?e5 ?e6 ?e7 ?_ ?c1 ?c2 ?c3 ?c4
  case e3 => k_is
  case e4 => k_is
  case e6 => exact BindsTo.of_eq rfl
  case e7 => exact locs rfl
  case c1 => rfl
  case c2 => rfl
  case c3 => rfl
  case c4 => decide
  case e5 => first | omega | (show dp < _; omega) | (show A.depth < _; omega)
  intro L' h₁ loose mean mg mb F N X T
  k_with_none
  (k_with "state" => first | exact (rfl : NInv ns 0 0))
  tb_start
  k_state (fun pre number => NInv ns pre.length number) "number"
  · tb_start
    (k_with "state" => first | exact kInv.trans (Int.add_zero _).symm)
    k_state (fun pre number => IInv ns kPre.length (ns.drop kN.toNat) (ns.getD kN.toNat 0) pre.length number) "number"
    · tb_start
      · (k_with "state" => exact IInv.skip2 (by assumption) (by assumption) (by assumption))
        k_unfold
        dsimp only [InvPostN]
        kst_close
      · rename_i F1 N1 hI1 l1
        refine ways_K B kg F1 N1 rfl (by show dp + 1 < _; omega) (by show un + 3 + 100 < _; omega) (.head _) hI1 (rem_len (by rw [List.length_drop]; omega) (by omega)) ?_
        intro t2 h2 tk2 F2 N2
        (try dsimp only)
        (try k_sweep)
        tb_start
        (k_with "state" => exact IInv.add (by assumption) (by assumption) (by assumption) (by assumption))
        k_unfold
        dsimp only [InvPostN]
        kst_close
      · (k_with "state" => exact IInv.skip1 (by assumption) (by assumption) (by assumption))
        k_unfold
        dsimp only [InvPostN]
        kst_close
    · tb_start
      have kO := IInv.out kEq rfl kInv (by rw [rangeKs_length]; omega)
      (k_with "state" => exact kO)
      show InvPostN _ _ _ _ _ _ _ Flow.next _
      dsimp only [InvPostN]
      kst_close
  · tb_start
    rw [show ((ns.length : Int) - 0).toNat = ns.length by omega] at kInv
    rw [rangeKs_length] at kInv
    have e : _ = _ := kInv
    subst e
    exact ret _ _ _ kFr.keep
  k_with_none
end
end Mine
end PartC3
section PartL1
open PySem PySem.W PySem.Calls PySem.Spec PyProof.Rows
theorem Mine.calmL1 : True := by w_top off; k_with_none; trivial
set_option maxRecDepth 100000
namespace Mine

section
variable {prog : Program} {w : World} {A : Around} {s : Shared} {h₀ : Heap} {L : Addr} {m : Str → Option Value} {news : List (Addr × Obj)}
  {R : Result → Shared → Prop} {name qual : Str} {params : Arguments} {body : List Stmt} {scope : Scope} {cl : List (Str × Addr)} {dV kV doc pm cdv ct : Value} {an : Option Addr} {fo : Obj} {f : Addr} {args : Args} {binds : List (Str × Value)}

theorem groundL (F : Fr h₀ L s.heap m) (N : News h₀ L s.heap news) :
    Keep h₀ (hideAll s.heap (news.map (·.1))) ∧ ∀ v s', LeaveK h₀ L m (hideAll s.heap (news.map (·.1))) R v s' → R (.ok (.ret v)) s' := by
  have off : ∀ b o, h₀.get? b = some o → b ∉ news.map (·.1) := fun b o e hb => by
    obtain ⟨p, hp, rfl⟩ := List.mem_map.mp hb
    rw [(N p hp).2.2] at e; cases e
  have kp : Keep h₀ (hideAll s.heap (news.map (·.1))) := fun b o e => hideAll_get _ (F.keep b o e) (off b o e)
  refine ⟨kp, fun v s' hl => ?_⟩
  obtain ⟨oL, es, ep, hL, rL⟩ := F.ns
  have gL := hideAll_get (news.map (·.1)) hL fun hb => by
    obtain ⟨p, hp, e⟩ := List.mem_map.mp hb
    exact (N p hp).2.1 e
  obtain ⟨L', m', news', F', N', k⟩ := hl
  refine k ⟨⟨oL, es, ep, F'.keep _ _ gL, rL⟩, fun b o e => F'.keep b o (kp b o e), F.above⟩ fun p hp => ⟨(N' p hp).1, fun q => ?_, ?_⟩
  · have := (N' p hp).2.2
    rw [q, gL] at this; cases this
  · cases q : h₀.get? p.1 with
    | none => rfl
    | some o => have := (N' p hp).2.2; rw [kp _ _ q] at this; cases this

theorem enterLP (F : Fr h₀ L s.heap m) (N : News h₀ L s.heap news) (hlim : h₀.NoLimit)
    (ho : s.heap.get? f = some fo) (hd : fo.data = .func (fnX name qual params body scope cl dV kV doc pm an cdv ct)) (hcd : s.heap.CodeRec cdv qual) (hroom : A.depth < recursionLimit)
    (hbind : BindsTo s (fnX name qual params body scope cl dV kV doc pm an cdv ct) args binds) (hloc : ∀ y ∈ binds, scope.names.lookup y.1 = some .local)
    (h : ∀ (g' : Heap) (L' : Addr) (h₁ : Heap), Keep h₀ g' → Fr g' L' h₁ (fun y => binds.reverse.lookup y) → News g' L' h₁ news → (∀ p ∈ news, p.1 < L') →
      wpAny (model prog w) (A.deeper (envX qual scope L' f cdv cl)) (execs body (envX qual scope L' f cdv cl))
        (fun fl s' => LeaveK h₀ L m g' R (match fl with | .ret v => v | _ => .none) s') (fun _ _ => False) { s with heap := h₁, toks := s.toks + binds.length })
    (hcell : ∀ x ∈ scope.names, x.2 ≠ .cell) (hco : scope.isCoroutine = false := by rfl) (hgen : scope.isGenerator = false := by rfl) (hk : scope.kind = .function := by rfl) : codeAny (model prog w) A (.call (.ref f) args) R s := by
  obtain ⟨kp, lv⟩ := groundL (R := R) F N
  refine codeAny_call_def (fd := fnX name qual params body scope cl dV kV doc pm an cdv ct) (body := body) (binds := binds) hroom ho hd (hlim.keeps F.keep) hcd rfl hbind hcell hloc (fun h₁ hns hk₁ => ?_) hco hgen hk
  exact wpAny_mono (h _ s.heap.objs.size h₁ kp ⟨hns, fun b o e => hk₁ b o (of_hideAll _ e), Nat.le_of_eq (hideAll_size _ _)⟩
    (fun p hp => ⟨hk₁ _ _ (N p hp).1, Nat.ne_of_lt (Heap.lt_size (N p hp).1), hideAll_none _ (List.mem_map_of_mem hp)⟩) (fun p hp => Heap.lt_size (N p hp).1)) (fun _ _ hl => lv _ _ hl) fun _ _ y => y.elim

theorem enterLC (F : Fr h₀ L s.heap m) (N : News h₀ L s.heap news) (hlim : h₀.NoLimit)
    (ho : s.heap.get? f = some fo) (hd : fo.data = .func (fnX name qual params body scope [] dV kV doc pm an cdv ct)) (hcd : s.heap.CodeRec cdv qual) (hroom : A.depth < recursionLimit)
    (hbind : BindsTo s (fnX name qual params body scope [] dV kV doc pm an cdv ct) args binds)
    (hkind : (binds.all fun y => scope.names.lookup y.1 == some .local || scope.names.lookup y.1 == some .cell) = true)
    (hnd : ((cellsFrom 0 scope.names []).map (·.1)).Nodup)
    (h : ∀ (g' : Heap) (L' : Addr) (h₁ : Heap) (tk : Nat) (cells : List (Addr × Obj)), Keep h₀ g' → Fr g' L' h₁ (bindL (envOfC qual scope L' f cdv).kindOf binds fun _ => none) → News g' L' h₁ (cells ++ news) →
      CellsAre (bindC (envOfC qual scope L' f cdv).kindOf binds fun _ => none) (cellsFrom (L' + 1) scope.names []) cells → (∀ p ∈ news, p.1 < L') →
      wpAny (model prog w) (A.deeper (envOfC qual scope L' f cdv)) (execs body (envOfC qual scope L' f cdv))
        (fun fl s' => LeaveK h₀ L m g' R (match fl with | .ret v => v | _ => .none) s') (fun _ _ => False) { s with heap := h₁, toks := tk })
    (hco : scope.isCoroutine = false := by rfl) (hgen : scope.isGenerator = false := by rfl) (hk : scope.kind = .function := by rfl) : codeAny (model prog w) A (.call (.ref f) args) R s := by
  obtain ⟨kp, lv⟩ := groundL (R := R) F N
  refine codeAny_call_function hroom ho hd hco hgen rfl hcd (hbind _ _ _ _ ?_)
  refine wpAny_newFunctionEnv_cells hk (kindsX hkind _) fun env' he s' x => ?_
  subst he
  refine ⟨(hlim.keeps F.keep).keeps x.toInCall.keep, codeAny_func ?_⟩
  obtain ⟨h₁, tk, rfl, _⟩ := x.done
  have hk₁ := x.toInCall.keep
  obtain ⟨cells, NC, Y⟩ := Cl.news (h₀ := s.heap) (Nat.le_refl _) fun n c hm => ⟨x.cell n c (lookup_of_mem_nodup (cellsFrom_names scope.names 0 (s.heap.objs.size + 1) [] [] rfl ▸ hnd) hm), x.above n c hm⟩
  refine wpAny_mono (h _ s.heap.objs.size h₁ tk cells kp ⟨x.toInCall.ns, fun b o e => hk₁ b o (of_hideAll _ e), Nat.le_of_eq (hideAll_size _ _)⟩ (fun p hp => ?_) Y (fun p hp => Heap.lt_size (N p hp).1)) (fun fl s' hl => lv _ _ hl) fun _ _ y => y.elim
  rcases List.mem_append.mp hp with hp | hp
  · refine ⟨(NC p hp).1, (NC p hp).2.1, ?_⟩
    cases q : (hideAll s.heap (news.map (·.1))).get? p.1 with
    | none => rfl
    | some o => have := of_hideAll _ q; rw [(NC p hp).2.2] at this; cases this
  · exact ⟨hk₁ _ _ (N p hp).1, Nat.ne_of_lt (Heap.lt_size (N p hp).1), hideAll_none _ (List.mem_map_of_mem hp)⟩
end

/-- a table on the ledger -/
def TL (led : List (Addr × Obj)) (P : Addr) (pos : Pos) (q : Str) : Prop :=
  ∃ ps, (P, tabObj ps) ∈ led ∧ TriplesOk ps.toList ∧ (codeAmong pos ps.toList = none ∨ ∃ c oc vs t, codeAmong pos ps.toList = some (.ref c) ∧ (c, oc) ∈ led ∧ oc.data = .fields vs ∧ vs[1]? = some (.str q t) ∧ c ≠ 65 ∧ c ≠ 51 ∧ c ≠ 58)
structure TLs (led : List (Addr × Obj)) : Prop where
  t65 : TL led 65 posBeyond qBeyond
  t51 : TL led 51 posHit qHit
  t58 : TL led 58 posTurns qTurns
/-- all but the tables stay on the ledger -/
def LE (led led' : List (Addr × Obj)) : Prop := ∀ p ∈ led, p.1 ≠ 65 → p.1 ≠ 51 → p.1 ≠ 58 → p ∈ led'
theorem LE.refl (led : List (Addr × Obj)) : LE led led := fun _ hp _ _ _ => hp
theorem LE.trans {a b c : List (Addr × Obj)} (x : LE a b) (y : LE b c) : LE a c := fun p hp n1 n2 n3 => y p (x p hp n1 n2 n3) n1 n2 n3
theorem LE.cons {a b : List (Addr × Obj)} (x : LE a b) (p : Addr × Obj) : LE a (p :: b) := fun q hq n1 n2 n3 => .tail _ (x q hq n1 n2 n3)
theorem TL.mono {led led' : List (Addr × Obj)} {P : Addr} {pos : Pos} {q : Str} (x : TL led P pos q) (k : ∀ p ∈ led, p ∈ led') : TL led' P pos q := by
  obtain ⟨ps, a, b, c | ⟨c, oc, vs, t, e, hm, r⟩⟩ := x
  · exact ⟨ps, k _ a, b, .inl c⟩
  · exact ⟨ps, k _ a, b, .inr ⟨c, oc, vs, t, e, k _ hm, r⟩⟩
theorem TLs.mono {led led' : List (Addr × Obj)} (x : TLs led) (k : ∀ p ∈ led, p ∈ led') : TLs led' := ⟨x.t65.mono k, x.t51.mono k, x.t58.mono k⟩
/-- the ledger with P's object changed -/
def setL (led : List (Addr × Obj)) (P : Addr) (o : Obj) : List (Addr × Obj) := led.map fun p => if p.1 = P then (P, o) else p
theorem setL_mem {led : List (Addr × Obj)} {P : Addr} {o : Obj} {p : Addr × Obj} (hp : p ∈ led) (n : p.1 ≠ P) : p ∈ setL led P o := List.mem_map.mpr ⟨p, hp, if_neg n⟩
theorem setL_at {led : List (Addr × Obj)} {P : Addr} {o o' : Obj} (hp : (P, o) ∈ led) : (P, o') ∈ setL led P o' := List.mem_map.mpr ⟨_, hp, if_pos rfl⟩
theorem mem_setL {led : List (Addr × Obj)} {P : Addr} {o : Obj} {q : Addr × Obj} (hq : q ∈ setL led P o) : (q = (P, o) ∧ ∃ p ∈ led, p.1 = P) ∨ (q ∈ led ∧ q.1 ≠ P) := by
  obtain ⟨p, hp, e⟩ := List.mem_map.mp hq
  by_cases h : p.1 = P
  · rw [if_pos h] at e; exact .inl ⟨e.symm, p, hp, h⟩
  · rw [if_neg h] at e; subst e; exact .inr ⟨hp, h⟩
theorem TL.setOther {led : List (Addr × Obj)} {P P' : Addr} {pos : Pos} {q : Str} {o : Obj} (x : TL led P pos q) (hP : P' = 65 ∨ P' = 51 ∨ P' = 58) (n : P ≠ P') : TL (setL led P' o) P pos q := by
  obtain ⟨ps, a, b, c | ⟨c, oc, vs, t, e, hm, r1, r2, n1, n2, n3⟩⟩ := x
  · exact ⟨ps, setL_mem a n, b, .inl c⟩
  · exact ⟨ps, setL_mem a n, b, .inr ⟨c, oc, vs, t, e, setL_mem hm (by rcases hP with rfl | rfl | rfl <;> assumption), r1, r2, n1, n2, n3⟩⟩

section
variable {M : Model} {A : Around} {E : Value → Shared → Prop} {s : Shared} {h₀ : Heap} {L a c P : Addr} {m mg mb : Str → Option Value} {cn : Str} {cs : Scope} {ccd : Value} {cl : List (Str × Addr)} {led : List (Addr × Obj)}
  {p : Program} {loose : List Str} {mean : ExcName → Option Value} {name qual : Str} {params : Arguments} {body : FuncBody} {scope : Scope} {pos : Pos} {firstLine : Nat} {clos : List (Str × Addr)} {dV : Value} {Q : Value → Shared → Prop}

theorem nestL (F : Fr h₀ L s.heap m) (N : News h₀ L s.heap led) (T : Top p loose mean mg mb h₀) (C : CodeHd h₀ c P) (hcd : ccd = .ref c) (hP : P = 65 ∨ P = 51 ∨ P = 58) (TT : TLs led) (tp : TL led P pos qual)
    (hcl : closureFor scope (envX cn cs L a ccd cl) = pure clos)
    (h : ∀ f c' oc vs t ctv doc h' tk led', Fr h₀ L h' m → News h₀ L h' ((f, kdv_obj name qual params body scope clos dV doc ((mg "__name__").getD .none) c' ctv) :: led') →
      (∀ q ∈ led, q.1 ≠ P → q ∈ led') → TL led' P pos qual → (∀ P' pos' q', P' ≠ P → TL led P' pos' q' → TL led' P' pos' q') → (c', oc) ∈ led' → oc.data = .fields vs → vs[1]? = some (.str qual t) → (c' ≠ 65 ∧ c' ≠ 51 ∧ c' ≠ 58) → (∀ q ∈ led', q.1 < f) → Q (.ref f) { s with heap := h', toks := tk }) :
    wpAny M A (makeTail name qual params body scope (envX cn cs L a ccd cl) dV .none none pos firstLine) Q E s := by
  obtain ⟨ps, hmem, ht, hcase⟩ := id tp
  have hm := N _ hmem
  have hgs := T.g.keeps F.keep
  obtain ⟨bm, ob, b1, b2, b3, b4, b5, b6⟩ := T.bmain
  have hgP : mainGlobals ≠ P := fun q => by
    obtain ⟨o, es, ep, e, hd, _⟩ := hgs
    rw [q] at e; rw [show s.heap.get? P = some (tabObj ps) from hm.1] at e; cases e; cases hd
  have hbP : bm ≠ P := fun q => by
    have e := F.keep _ _ b3
    rw [q] at e; rw [show s.heap.get? P = some (tabObj ps) from hm.1] at e; cases e; cases b4
  have hbG : bm ≠ mainGlobals := fun q => by
    obtain ⟨o, es, ep, e, hd, _⟩ := T.g
    rw [q, e] at b3; cases b3; rw [hd] at b6; cases b6
  have above : ∀ b, L < b → h₀.get? b = none := fun b hb => Heap.get?_none_of_le (Nat.le_trans F.above (Nat.le_of_lt hb))
  rcases hcase with hnf | ⟨c', oc, vs, t, hf, hc, r1, r2, n⟩
  · refine kdv_makeTail (mg := mg) hcl rfl hgs hcd (C.keeps F.keep) hm.1 ht hnf hgP ⟨bm, ob, b1, b2, hbG, hbP, F.keep _ _ b3, b4, b5, b6⟩ fun c' ctv doc h' tk hx hge hlt hrec htb => ?_
    obtain ⟨c₂, oc, vs, t, e2, hoc, hd, hv⟩ := hrec
    cases e2
    have hLc : L < c' := Nat.lt_of_lt_of_le F.ns.lt hge
    have tn : ∀ q ∈ led, q.1 < c' := fun q hq => Nat.lt_of_lt_of_le (Heap.lt_size (N q hq).1) hge
    have c65 : c' ≠ 65 := fun q => by obtain ⟨_, k, _⟩ := TT.t65; have z := tn _ k; rw [q] at z; exact Nat.lt_irrefl _ z
    have c51 : c' ≠ 51 := fun q => by obtain ⟨_, k, _⟩ := TT.t51; have z := tn _ k; rw [q] at z; exact Nat.lt_irrefl _ z
    have c58 : c' ≠ 58 := fun q => by obtain ⟨_, k, _⟩ := TT.t58; have z := tn _ k; rw [q] at z; exact Nat.lt_irrefl _ z
    have hm1 : (P, tabObj (ps ++ #[rawInt pos.line, rawInt pos.col, .ref c'])) ∈ (c', oc) :: setL led P (tabObj (ps ++ #[rawInt pos.line, rawInt pos.col, .ref c'])) := .tail _ (setL_at hmem)
    refine h h'.objs.size c' oc vs t ctv doc _ tk ((c', oc) :: setL led P (tabObj (ps ++ #[rawInt pos.line, rawInt pos.col, .ref c']))) ⟨(F.ns.extBut hx hm.2.1.symm).push _, fun b o e => Heap.get?_push_of_some _ (hx b o (fun q => by subst q; have h2 := hm.2.2; dsimp only at h2; rw [h2] at e; cases e) (F.keep b o e)), F.above⟩ ?_
      (fun q hq n => .tail _ (setL_mem hq n)) ⟨_, hm1, ?_, .inr ⟨c', oc, vs, t, ?_, .head _, hd, hv, c65, c51, c58⟩⟩ (fun P' pos' q' n x => ?_) (.head _) hd hv ⟨c65, c51, c58⟩ (fun q hq => ?_)
    · intro q hq
      rcases List.mem_cons.mp hq with rfl | hq
      · exact ⟨Heap.get?_push_size _ rfl, Nat.ne_of_gt (Nat.lt_trans hLc hlt), above _ (Nat.lt_trans hLc hlt)⟩
      rcases List.mem_cons.mp hq with rfl | hq
      · exact ⟨Heap.get?_push_of_some _ hoc, Nat.ne_of_gt hLc, above _ hLc⟩
      rcases mem_setL hq with ⟨rfl, _⟩ | ⟨hq, n⟩
      · exact ⟨Heap.get?_push_of_some _ htb, hm.2⟩
      · exact ⟨Heap.get?_push_of_some _ (hx _ _ n (N q hq).1), (N q hq).2⟩
    · simpa using TriplesOk_snoc pos.line pos.col (.ref c') ps.toList ht
    · simpa using codeAmong_snoc (c := .ref c') ps.toList ht hnf
    · exact (x.setOther hP n).mono fun q hq => .tail _ hq
    · rcases List.mem_cons.mp hq with rfl | hq
      · exact hlt
      rcases mem_setL hq with ⟨rfl, _⟩ | ⟨hq, _⟩
      · exact Nat.lt_trans (tn (P, tabObj ps) hmem : P < c') hlt
      · exact Nat.lt_trans (tn q hq) hlt
  · refine kdv_makeTailHit (mg := mg) hcl rfl hgs hcd (C.keeps F.keep) hm.1 ht hf ⟨bm, ob, b1, b2, hbG, hbP, F.keep _ _ b3, b4, b5, b6⟩ fun ctv doc h' tk hk hsz => ?_
    have hLs : L < h'.objs.size := Nat.lt_of_lt_of_le F.ns.lt hsz
    refine h h'.objs.size c' oc vs t ctv doc _ tk led ⟨(F.ns.keeps hk).push _, fun b o e => Heap.get?_push_of_some _ (hk b o (F.keep b o e)), F.above⟩ ?_ (fun q hq _ => hq) tp (fun _ _ _ _ x => x) hc r1 r2 n (fun q hq => Nat.lt_of_lt_of_le (Heap.lt_size (N q hq).1) hsz)
    intro q hq
    rcases List.mem_cons.mp hq with rfl | hq
    · exact ⟨Heap.get?_push_size _ rfl, Nat.ne_of_gt hLs, above _ hLs⟩
    · exact ⟨Heap.get?_push_of_some _ (hk _ _ (N q hq).1), (N q hq).2⟩
end
end Mine
end PartL1
section PartL2
open PySem PySem.W PySem.Calls PySem.Spec PyProof.Rows
theorem Mine.calmL2 : True := by w_top off; k_with_none; trivial
set_option maxRecDepth 100000
namespace Mine
theorem fillK4 (w : World) (g : Heap) (X : (hd0.heap_39 w.params).In g) : (hd0.heap_39 w.params).In g ∧ PySem.Challenge.rw_pe0030_01 = PySem.Challenge.rw_pe0030_01 := by
  k_fill
  exact ⟨X, rfl⟩
local macro_rules | `(tactic| k_mem) => `(tactic| first | with_reducible assumption | (with_reducible exact List.mem_append_left _ (by with_reducible assumption)))
local macro_rules | `(tactic| kmk_nums) => `(tactic| first | ((with_reducible refine' kmk_from ?gi ?gx); (case gi => l_ints); (case gx => omega)) | ((with_reducible refine' kmk_upto ?gi ?gx); (case gi => l_ints); (case gx => omega)))
local macro_rules | `(tactic| tb_start) => `(tactic| repeat' (first | ((fail_if_success (with_reducible show wpAny _ _ (pyIter _) _ _ _)); (fail_if_success (with_reducible show InvPostN _ _ _ _ _ _ _ _ _)); (fail_if_success (with_reducible show InvEndN _ _ _ _ _ _ _)); (first | (k_unfold; (try dsimp only)) | (k_end; wrow_close) | walk1 | (dsimp only; walk1) | (leave1; walk_say "STEP leave1"; try dsimp only))) | fail "no step"))

section
variable {w : World} {g : Heap} {A : Around} {s : Shared} {h₀ : Heap} {L : Addr} {m : Str → Option Value} {news : List (Addr × Obj)}
  {R : Result → Shared → Prop} {name qual : Str} {params : Arguments} {body : List Stmt} {scope : Scope} {dV kV doc pm cdv ct oc : Value} {an od : Option Addr} {osl : Array (Option Value)} {f : Addr} {args : Args} {binds : List (Str × Value)}
theorem enterKC (B : Bs w g) (gk : Keep g h₀) (F : Fr h₀ L s.heap m) (N : News h₀ L s.heap news)
    (ho : (hd0.heap_39 w.params).lookup f = some ⟨oc, od, .func (fnX name qual params body scope [] dV kV doc pm an cdv ct), osl⟩) (hcd : codeIn (hd0.heap_39 w.params) cdv qual = true) (hroom : A.depth < recursionLimit)
    (hbind : BindsTo s (fnX name qual params body scope [] dV kV doc pm an cdv ct) args binds)
    (hkind : (binds.all fun y => scope.names.lookup y.1 == some .local || scope.names.lookup y.1 == some .cell) = true)
    (hnd : ((cellsFrom 0 scope.names []).map (·.1)).Nodup)
    (h : ∀ (g' : Heap) (L' : Addr) (h₁ : Heap) (tk : Nat) (cells : List (Addr × Obj)) (loose : List Str) (mean : ExcName → Option Value) (mg mb : Str → Option Value), Keep h₀ g' → Fr g' L' h₁ (bindL (envOfC qual scope L' f cdv).kindOf binds fun _ => none) → News g' L' h₁ (cells ++ news) →
      CellsAre (bindC (envOfC qual scope L' f cdv).kindOf binds fun _ => none) (cellsFrom (L' + 1) scope.names []) cells → (∀ p ∈ news, p.1 < L') →
      (hd0.heap_39 w.params).In g' → Top topProg loose mean mg mb g' → CodeHd g' 69 65 → CodeHd g' 55 51 → CodeHd g' 62 58 →
      wpAny (model PySem.Challenge.rw_pe0030_01.row.prog w) (A.deeper (envOfC qual scope L' f cdv)) (execs body (envOfC qual scope L' f cdv))
        (fun fl s' => LeaveK h₀ L m g' R (match fl with | .ret v => v | _ => .none) s') (fun _ _ => False) { s with heap := h₁, toks := tk })
    (hco : scope.isCoroutine = false := by rfl) (hgen : scope.isGenerator = false := by rfl) (hk : scope.kind = .function := by rfl) : codeAny (model PySem.Challenge.rw_pe0030_01.row.prog w) A (.call (.ref f) args) R s := by
  obtain ⟨loose, mean, mg, mb, T⟩ := B.T
  have X := B.X.keeps (gk.trans F.keep)
  refine enterLC F N (T.nolimit.keeps gk) (X _ _ ho) rfl (codeRec_of X hcd) hroom hbind hkind hnd (fun g' L' h₁ tk cells kp F' N' Y lt => ?_) hco hgen hk
  have q := gk.trans kp
  exact h g' L' h₁ tk cells loose mean mg mb kp F' N' Y lt (B.X.keeps q) (T.keeps q) (B.c65.keeps q) (B.c51.keeps q) (B.c58.keeps q)
end

def CellIs (led : List (Addr × Obj)) (c : Addr) (v : Value) : Prop := ∃ o, (c, o) ∈ led ∧ o.data = .cell (some v) ∧ c ≠ 65 ∧ c ≠ 51 ∧ c ≠ 58
def DictIs (led : List (Addr × Obj)) (d : Addr) (x : Str) (v : Value) : Prop := ∃ o es ep, (d, o) ∈ led ∧ o.data = .dict es ep ∧ StrKeys es ∧ nsFind es x = some v ∧ d ≠ 65 ∧ d ≠ 51 ∧ d ≠ 58
def CodeIs (led : List (Addr × Obj)) (c : Addr) (q : Str) : Prop := ∃ oc vs t, (c, oc) ∈ led ∧ oc.data = .fields vs ∧ vs[1]? = some (.str q t) ∧ c ≠ 65 ∧ c ≠ 51 ∧ c ≠ 58
/-- a function object on the ledger that bears itself under x -/
def FnIs (led : List (Addr × Obj)) (f : Addr) (x : Str) (fd : FuncData) : Prop := ∃ d, (f, fnObj fd (some d) #[]) ∈ led ∧ DictIs led d x (.ref f) ∧ f ≠ 65 ∧ f ≠ 51 ∧ f ≠ 58
/-- what a call of f gives back: a new tuple of i and j -/
def HitSpec (w : World) (g : Heap) (led : List (Addr × Obj)) (f : Addr) (i j : Int) : Prop :=
  ∀ (A : Around) (s : Shared) (Q E : Value → Shared → Prop) (h₀ : Heap) (L : Addr) (m : Str → Option Value) (led' : List (Addr × Obj)), Keep g h₀ → Fr h₀ L s.heap m → News h₀ L s.heap led' → LE led led' → A.depth < recursionLimit →
    (∀ p ti tj h' tk, Fr h₀ L h' m → News h₀ L h' ((p, { cls := .type "tuple", data := .seq #[.int i ti, .int j tj] }) :: led') → (∀ q ∈ led', q.1 < p) → Q (.ref p) { s with heap := h', toks := tk }) →
    wpAny (model PySem.Challenge.rw_pe0030_01.row.prog w) A (call (.ref f) []) Q E s
def HitIn (w : World) (g : Heap) (led : List (Addr × Obj)) (f : Addr) (i j : Int) : Prop := (∃ fd, FnIs led f (Str.ofString "span") fd) ∧ HitSpec w g led f i j
theorem tabLt {led : List (Addr × Obj)} {x : Addr} (TT : TLs led) (lt : ∀ p ∈ led, p.1 < x) : 65 < x ∧ 51 < x ∧ 58 < x := by
  obtain ⟨⟨_, a, _⟩, ⟨_, b, _⟩, ⟨_, c, _⟩⟩ := TT
  exact ⟨lt _ a, lt _ b, lt _ c⟩
theorem offT {x : Nat} (h : 65 < x) : x ≠ 65 ∧ x ≠ 51 ∧ x ≠ 58 := by omega
theorem CellIs.le {led led' : List (Addr × Obj)} {c : Addr} {v : Value} (k : LE led led') (x : CellIs led c v) : CellIs led' c v := let ⟨o, a, b, n1, n2, n3⟩ := x; ⟨o, k _ a n1 n2 n3, b, n1, n2, n3⟩
theorem DictIs.le {led led' : List (Addr × Obj)} {c : Addr} {x : Str} {v : Value} (k : LE led led') (y : DictIs led c x v) : DictIs led' c x v := let ⟨o, es, ep, a, b, c, d, n1, n2, n3⟩ := y; ⟨o, es, ep, k _ a n1 n2 n3, b, c, d, n1, n2, n3⟩
theorem CodeIs.le {led led' : List (Addr × Obj)} {c : Addr} {q : Str} (k : LE led led') (x : CodeIs led c q) : CodeIs led' c q := let ⟨o, vs, t, a, b, d, n1, n2, n3⟩ := x; ⟨o, vs, t, k _ a n1 n2 n3, b, d, n1, n2, n3⟩
theorem FnIs.le {led led' : List (Addr × Obj)} {f : Addr} {x : Str} {fd : FuncData} (k : LE led led') (y : FnIs led f x fd) : FnIs led' f x fd := let ⟨d, a, b, n1, n2, n3⟩ := y; ⟨d, k _ a n1 n2 n3, b.le k, n1, n2, n3⟩
/-- what a search told: nothing, or a hit -/
def FoundIs (w : World) (g : Heap) (led : List (Addr × Obj)) (v : Value) : Option (Int × Int) → Prop
  | none => v = .none
  | some (i, j) => ∃ f, v = .ref f ∧ HitIn w g led f i j
/-- what a call of a finder gives back -/
def SearchSpec (w : World) (g : Heap) (led : List (Addr × Obj)) (f : Addr) (fnd : List Int → Int → Option (Int × Int)) : Prop :=
  ∀ (A : Around) (s : Shared) (Q E : Value → Shared → Prop) (h₀ : Heap) (L : Addr) (m : Str → Option Value) (led' : List (Addr × Obj)) (r : Addr) (vs : List Value) (n : Nat) (ns : List Int) (args : List Value) (place : Int),
    Keep g h₀ → Fr h₀ L s.heap m → News h₀ L s.heap led' → LE led led' → TLs led' → (r, listOf vs.toArray n) ∈ led' → IntsAre vs ns → ns.length = 5 → A.handled = none → A.depth + 3 < recursionLimit → A.units + 100 < cLine →
    (args = [.ref r] ∧ place = 0 ∨ ∃ t, args = [.ref r, .int place t]) → 0 ≤ place → place ≤ 6 →
    (∀ v h' tk led'', Fr h₀ L h' m → News h₀ L h' led'' → LE led' led'' → TLs led'' → FoundIs w g led'' v (fnd ns place) → Q v { s with heap := h', toks := tk }) →
    wpAny (model PySem.Challenge.rw_pe0030_01.row.prog w) A (call (.ref f) args) Q E s
def SearchIn (w : World) (g : Heap) (led : List (Addr × Obj)) (f : Addr) (fnd : List Int → Int → Option (Int × Int)) : Prop := (∃ fd, FnIs led f (Str.ofString "search") fd) ∧ SearchSpec w g led f fnd
theorem SearchIn.le {w : World} {g : Heap} {led led' : List (Addr × Obj)} {f : Addr} {fnd : List Int → Int → Option (Int × Int)} (k : LE led led') (x : SearchIn w g led f fnd) : SearchIn w g led' f fnd :=
  ⟨let ⟨fd, y⟩ := x.1; ⟨fd, y.le k⟩, fun A s Q E h₀ L m led'' r vs n ns args place a b c d => x.2 A s Q E h₀ L m led'' r vs n ns args place a b c (k.trans d)⟩
theorem HitIn.le {w : World} {g : Heap} {led led' : List (Addr × Obj)} {f : Addr} {i j : Int} (k : LE led led') (x : HitIn w g led f i j) : HitIn w g led' f i j :=
  ⟨let ⟨fd, y⟩ := x.1; ⟨fd, y.le k⟩, fun A s Q E h₀ L m led'' a b c d => x.2 A s Q E h₀ L m led'' a b c (k.trans d)⟩
theorem CodeIs.rec {h₀ : Heap} {L : Addr} {led : List (Addr × Obj)} {c : Addr} {q : Str} {h : Heap} (N : News h₀ L h led) (x : CodeIs led c q) : h.CodeRec (.ref c) q := let ⟨oc, vs, t, a, b, d, _⟩ := x; ⟨c, oc, vs, t, rfl, (N _ a).1, b, d⟩

section
variable {M : Model} {A : Around} {E : Value → Shared → Prop} {s : Shared} {h₀ : Heap} {L a c P : Addr} {m mg mb : Str → Option Value} {cn : Str} {cs : Scope} {ccd : Value} {cl : List (Str × Addr)} {led : List (Addr × Obj)}
  {p : Program} {loose : List Str} {mean : ExcName → Option Value} {name qual : Str} {params : Arguments} {body : List Stmt} {scope : Scope} {pos : Pos} {firstLine : Nat} {clos : List (Str × Addr)} {Q : Value → Shared → Prop}
theorem nestL1 {dV : Value} (F : Fr h₀ L s.heap m) (N : News h₀ L s.heap led) (T : Top p loose mean mg mb h₀) (C : CodeHd h₀ c P) (hcd : ccd = .ref c) (hP : P = 65 ∨ P = 51 ∨ P = 58) (TT : TLs led) (tp : TL led P pos qual)
    (hcl : closureFor scope (envX cn cs L a ccd cl) = pure clos)
    (h : ∀ f c' ctv doc h' tk led', Fr h₀ L h' m → News h₀ L h' ((f, fnObj (kdv_fn name qual params (.stmts body) scope clos dV doc ((mg "__name__").getD .none) (.ref c') ctv) none #[]) :: led') →
      (∀ q ∈ led, q.1 ≠ P → q ∈ led') → TL led' P pos qual → (∀ P' pos' q', P' ≠ P → TL led P' pos' q' → TL led' P' pos' q') → CodeIs led' c' qual → (∀ q ∈ led', q.1 < f) → Q (.ref f) { s with heap := h', toks := tk }) :
    wpAny M A (makeTail name qual params (.stmts body) scope (envX cn cs L a ccd cl) dV .none none pos firstLine) Q E s :=
  nestL F N T C hcd hP TT tp hcl fun f c' oc vs t ctv doc h' tk led' F' N' k1 k2 k3 e1 e2 e3 n lt => h f c' ctv doc h' tk led' F' N' k1 k2 k3 ⟨oc, vs, t, e1, e2, e3, n⟩ lt
theorem nestL0 (F : Fr h₀ L s.heap m) (N : News h₀ L s.heap led) (T : Top p loose mean mg mb h₀) (C : CodeHd h₀ c P) (hcd : ccd = .ref c) (hP : P = 65 ∨ P = 51 ∨ P = 58) (TT : TLs led) (tp : TL led P pos qual)
    (hcl : closureFor scope (envX cn cs L a ccd cl) = pure clos)
    (h : ∀ f c' ctv doc h' tk led', Fr h₀ L h' m → News h₀ L h' ((f, fnObj (kdv_fn name qual params (.stmts body) scope clos .none doc ((mg "__name__").getD .none) (.ref c') ctv) none #[]) :: led') →
      (∀ q ∈ led, q.1 ≠ P → q ∈ led') → TL led' P pos qual → (∀ P' pos' q', P' ≠ P → TL led P' pos' q' → TL led' P' pos' q') → CodeIs led' c' qual → (∀ q ∈ led', q.1 < f) → Q (.ref f) { s with heap := h', toks := tk }) :
    wpAny M A (makeFunction name qual params (.stmts body) scope (envX cn cs L a ccd cl) [] [] [] pos firstLine) Q E s := by
  rw [makeFunction_eq]
  simp only [List.zip_nil_right, List.filterMap_nil, List.isEmpty_nil, if_true, pure_bind]
  exact nestL F N T C hcd hP TT tp hcl fun f c' oc vs t ctv doc h' tk led' F' N' k1 k2 k3 e1 e2 e3 n lt => h f c' ctv doc h' tk led' F' N' k1 k2 k3 ⟨oc, vs, t, e1, e2, e3, n⟩ lt
end

section
variable {prog : Program} {w : World} {A : Around} {E : Value → Shared → Prop} {s : Shared} {h₀ : Heap} {L : Addr} {m : Str → Option Value} {led : List (Addr × Obj)}
/-- a first attribute laid on a function of the ledger -/
theorem setAttr_L {f : Addr} {name : Str} {v : Value} {fd : FuncData} {Q : Unit → Shared → Prop} (hmiss : typeLookup (.type "function") name = pure none) (F : Fr h₀ L s.heap m)
    (N : News h₀ L s.heap ((f, fnObj fd none #[]) :: led)) (lt : ∀ q ∈ led, q.1 < f)
    (h : ∀ d o es ep h' tk, Fr h₀ L h' m → News h₀ L h' ((d, o) :: (f, fnObj fd (some d) #[]) :: led) → o.data = .dict es ep → StrKeys es → nsFind es name = some v → f < d → Q () { s with heap := h', toks := tk }) :
    wpAny (model prog w) A (setAttr (.ref f) name v) Q E s := by
  have hf := N _ (.head _)
  refine setAttr_fn hmiss hf.1 fun d h' tk hd e1 e2 e3 => ?_
  obtain ⟨o, es, ep, ho, hod, hk, hn⟩ := e2
  have fd' : f < d := Nat.lt_of_lt_of_le (Heap.lt_size hf.1) hd
  have Ld : L < d := Nat.lt_of_lt_of_le F.ns.lt hd
  refine h d o es ep h' tk ⟨?_, fun b ob e => e3 b ob (fun q => ?_) (F.keep b ob e), F.above⟩ ?_ hod hk (by rw [hn]; exact if_pos rfl) fd'
  · obtain ⟨oL, eL, pL, hL, rL⟩ := F.ns
    exact ⟨oL, eL, pL, e3 _ _ (Ne.symm hf.2.1) hL, rL⟩
  · subst q; have := hf.2.2; dsimp only at this; rw [this] at e; cases e
  · intro p hp
    rcases List.mem_cons.mp hp with rfl | hp
    · exact ⟨ho, Nat.ne_of_gt Ld, Heap.get?_none_of_le (Nat.le_trans F.above (Nat.le_of_lt Ld))⟩
    rcases List.mem_cons.mp hp with rfl | hp
    · exact ⟨e1, hf.2⟩
    · have n := N p (.tail _ hp)
      exact ⟨e3 _ _ (Nat.ne_of_lt (lt p hp)) n.1, n.2⟩
end

section
variable {w : World} {g : Heap} {A : Around} {s : Shared} {Q E : Value → Shared → Prop} {h₀ : Heap} {L : Addr} {m : Str → Option Value} {led : List (Addr × Obj)}
set_option maxHeartbeats 4000000 in
theorem hit_lc {i j : Int} {ti tj : Tok} (B : Bs w g) (gk : Keep g h₀) (F : Fr h₀ L s.heap m) (N : News h₀ L s.heap led) (TT : TLs led) (hd : A.depth < recursionLimit)
    (ret : ∀ v h' tk led', Fr h₀ L h' m → News h₀ L h' led' → LE led led' → TLs led' → HitIn w g led' v i j → Q (.ref v) { s with heap := h', toks := tk }) : wpAny (model PySem.Challenge.rw_pe0030_01.row.prog w) A (call (.ref 56) [.int i ti, .int j tj]) Q E s := by
  refine wpAny_call ?_
  refine' enterKC (binds := [(Str.ofString "i", .int i ti), (Str.ofString "j", .int j tj)]) B gk F N ?e3 ?e4 ?e5 ?e6 ?e7 ?e8 ?_ ?c1 ?c2 ?c3
  case e3 => k_is
  case e4 => k_is
  case e6 => exact BindsTo.of_eq rfl
  case e7 => exact rfl
  case e8 => decide +kernel
  case c1 => rfl
  case c2 => rfl
  case c3 => rfl
  case e5 => first | omega | (show dp < _; omega) | (show A.depth < _; omega)
  intro g' L' h₁ tk0 cells loose mean mg mb kp F1 N1 Y lt1 X T c65 c51 c58
  k_cells Y
  (try simp only [List.cons_append, List.nil_append] at N1)
  tb_start
  rename_i oj oi dj di
  have TT1 : TLs ((L' + 1 + 1, oj) :: (L' + 1, oi) :: led) := TT.mono fun p hp => .tail _ (.tail _ hp)
  refine nestDef_K rfl rfl rfl ?_
  refine nestL0 F1 N1 T c51 rfl (.inr (.inl rfl)) TT1 TT1.t51 rfl ?_
  intro f c' ctv doc h2 tk2 led2 F2 N2 k1 k2 k3 ci lt2
  dsimp only
  tb_start
  rename_i h3 F3 N3
  refine setAttr_L fnNoSpan F3 N3 lt2 ?_
  intro d o es ep h4 tk4 F4 N4 q1 q2 q3 lt4
  dsimp only
  tb_start
  have TT2 : TLs led2 := ⟨k3 _ _ _ (by decide) TT1.t65, k2, k3 _ _ _ (by decide) TT1.t58⟩
  have nf := offT (tabLt TT2 lt2).1
  have nL := (tabLt TT lt1).1
  have nd := offT (Nat.lt_trans (tabLt TT2 lt2).1 lt4)
  have n1 := offT (Nat.lt_succ_of_lt nL)
  have n2 := offT (Nat.lt_succ_of_lt (Nat.lt_succ_of_lt nL))
  refine leaveK_ F4 N4 fun F5 N5 => ret f _ _ _ F5 N5 (fun p hp a1 a2 a3 => .tail _ (.tail _ (k1 p (.tail _ (.tail _ hp)) a2))) (TT2.mono fun p hp => .tail _ (.tail _ hp)) ⟨⟨_, d, .tail _ (.head _), ⟨o, es, ep, .head _, q1, q2, q3, nd⟩, nf⟩, ?_⟩
  clear ret F5 N5 F4 N4
  intro A7 s7 Q7 E7 h7 L7 m7 led7 gk7 F7 N7 le7 hd7 ret7
  have cO := ci.le (led' := led7) (fun p hp a1 a2 a3 => le7 _ (.tail _ (.tail _ hp)) a1 a2 a3)
  have mf := le7 _ (.tail _ (.head _)) nf.1 nf.2.1 nf.2.2
  have mi := le7 _ (.tail _ (.tail _ (k1 _ (.tail _ (.head _)) n1.2.1))) n1.1 n1.2.1 n1.2.2
  have mj := le7 _ (.tail _ (.tail _ (k1 _ (.head _) n2.2.1))) n2.1 n2.2.1 n2.2.2
  obtain ⟨loose7, mean7, mg7, mb7, T7⟩ := B.T
  refine wpAny_call ?_
  refine enterLP (binds := []) F7 N7 (T7.nolimit.keeps gk7) (N7 _ mf).1 rfl (cO.rec N7) hd7 (BindsTo.of_eq rfl) (fun _ h => nomatch h) (fun g8 L8 h8 kp8 F8 N8 lt8 => ?_) (by decide)
  have T8 := T7.keeps (gk7.trans kp8)
  have X8 := B.X.keeps (gk7.trans kp8)
  tb_start
  rename_i D9 h9 F9 N9 l9
  exact leaveK_ F9 N9 fun F10 N10 => ret7 _ _ _ _ _ F10 N10 l9
end
end Mine
end PartL2
section PartL3
open PySem PySem.W PySem.Calls PySem.Spec PyProof.Rows
theorem Mine.calmL3 : True := by w_top off; k_with_none; trivial
set_option maxRecDepth 100000
namespace Mine
theorem fillK5 (w : World) (g : Heap) (X : (hd0.heap_39 w.params).In g) : (hd0.heap_39 w.params).In g ∧ PySem.Challenge.rw_pe0030_01 = PySem.Challenge.rw_pe0030_01 := by
  k_fill
  exact ⟨X, rfl⟩
local macro_rules | `(tactic| k_mem) => `(tactic| first | with_reducible assumption | (with_reducible exact List.mem_append_left _ (by with_reducible assumption)))
local macro_rules | `(tactic| kmk_nums) => `(tactic| first | ((with_reducible refine' kmk_from ?gi ?gx); (case gi => l_ints); (case gx => omega)) | ((with_reducible refine' kmk_upto ?gi ?gx); (case gi => l_ints); (case gx => omega)))
local macro_rules | `(tactic| tb_start) => `(tactic| repeat' (first | ((fail_if_success (with_reducible show wpAny _ _ (pyIter _) _ _ _)); (fail_if_success (with_reducible show InvPostN _ _ _ _ _ _ _ _ _)); (fail_if_success (with_reducible show InvEndN _ _ _ _ _ _ _)); (first | (k_unfold; (try dsimp only)) | (k_end; wrow_close) | walk1 | (dsimp only; walk1) | (leave1; walk_say "STEP leave1"; try dsimp only))) | fail "no step"))

section
variable {w : World} {g : Heap} {A : Around} {s : Shared} {Q E : Value → Shared → Prop} {h₀ : Heap} {L : Addr} {m : Str → Option Value} {led : List (Addr × Obj)}
theorem methOf {f : Addr} {x : Str} {fd : FuncData} {pl : Sem Bool} {Q : Value × List Value → Shared → Prop} (N : News h₀ L s.heap led) (H : FnIs led f x fd) (hmiss : typeLookup (.type "function") x = pure none)
    (h : Q (.ref f, []) { s with toks := s.toks + 1 }) : wpAny (model PySem.Challenge.rw_pe0030_01.row.prog w) A (getMethod (.ref f) x pl) Q E s := by
  obtain ⟨d, a, ⟨o, es, ep, b1, b2, b3, b4, _⟩, _⟩ := H
  exact getMethod_fn (m := fun y => nsFind es y) (N _ a).1 ⟨o, es, ep, (N _ b1).1, b2, b3, fun _ => rfl⟩ hmiss b4 h
theorem fnType {f : Addr} {x : Str} {fd : FuncData} (N : News h₀ L s.heap led) (H : FnIs led f x fd) : s.TypeIs (.ref f) "function" := by
  obtain ⟨d, a, _⟩ := H
  exact ⟨_, (N _ a).1, rfl⟩
theorem lt_K {a b : Int} {t u : Tok} (B : Bs w g) (gk : Keep g h₀) (F : Fr h₀ L s.heap m) (N : News h₀ L s.heap led) (hd : A.depth < recursionLimit)
    (ret : ∀ h' tk, Fr h₀ L h' m → News h₀ L h' led → Q (.bool (decide (a < b))) { s with heap := h', toks := tk }) : wpAny (model PySem.Challenge.rw_pe0030_01.row.prog w) A (call (.ref 28) [.int a t, .int b u]) Q E s :=
  lt_ct B (gk.trans F.keep) hd fun h' tk kp => ret h' tk (kp.fr F) (kp.news N)
theorem gt_K {a b : Int} {t u : Tok} (B : Bs w g) (gk : Keep g h₀) (F : Fr h₀ L s.heap m) (N : News h₀ L s.heap led) (hd : A.depth < recursionLimit)
    (ret : ∀ h' tk, Fr h₀ L h' m → News h₀ L h' led → Q (.bool (decide (b < a))) { s with heap := h', toks := tk }) : wpAny (model PySem.Challenge.rw_pe0030_01.row.prog w) A (call (.ref 35) [.int a t, .int b u]) Q E s :=
  gt_ct B (gk.trans F.keep) hd fun h' tk kp => ret h' tk (kp.fr F) (kp.news N)

set_option maxHeartbeats 4000000 in
theorem turns_lt_lc (B : Bs w g) (gk : Keep g h₀) (F : Fr h₀ L s.heap m) (N : News h₀ L s.heap led) (TT : TLs led) (hd : A.depth < recursionLimit)
    (ret : ∀ v h' tk led', Fr h₀ L h' m → News h₀ L h' led' → LE led led' → TLs led' → SearchIn w g led' v (turnF false) → Q (.ref v) { s with heap := h', toks := tk }) : wpAny (model PySem.Challenge.rw_pe0030_01.row.prog w) A (call (.ref 63) [.ref 28]) Q E s := by
  refine wpAny_call ?_
  refine' enterKC (binds := [(Str.ofString "before", .ref 28)]) B gk F N ?e3 ?e4 ?e5 ?e6 ?e7 ?e8 ?_ ?c1 ?c2 ?c3
  case e3 => k_is
  case e4 => k_is
  case e6 => exact BindsTo.of_eq rfl
  case e7 => exact rfl
  case e8 => decide +kernel
  case c1 => rfl
  case c2 => rfl
  case c3 => rfl
  case e5 => first | omega | (show dp < _; omega) | (show A.depth < _; omega)
  intro g' L' h₁ tk0 cells loose mean mg mb kp F1 N1 Y lt1 X T c65 c51 c58
  k_cells Y
  (try simp only [List.cons_append, List.nil_append] at N1)
  tb_start
  rename_i ob db t2 h2 F2 N2 l2
  have TT1 : TLs ((t2, _) :: (L' + 1, ob) :: led) := TT.mono (led' := (t2, kdv_tup [.int 0 tk0]) :: (L' + 1, ob) :: led) fun p hp => .tail _ (.tail _ hp)
  refine nestL1 F2 N2 T c58 rfl (.inr (.inr rfl)) TT1 TT1.t58 rfl ?_
  intro f c' ctv doc h3 tk3 led3 F3 N3 k1 k2 k3 ci lt3
  dsimp only
  tb_start
  rename_i h4 F4 N4
  refine setAttr_L fnNoSearch F4 N4 lt3 ?_
  intro d o es ep h5 tk5 F5 N5 q1 q2 q3 lt5
  dsimp only
  tb_start
  have TT2 : TLs led3 := ⟨k3 _ _ _ (by decide) TT1.t65, k3 _ _ _ (by decide) TT1.t51, k2⟩
  have nf := offT (tabLt TT2 lt3).1
  have nL := (tabLt TT lt1).1
  have nd := offT (Nat.lt_trans (tabLt TT2 lt3).1 lt5)
  have n1 := offT (Nat.lt_succ_of_lt nL)
  have n2 := offT (Nat.lt_trans (Nat.lt_succ_of_lt nL) l2.1)
  refine leaveK_ F5 N5 fun F6 N6 => ret f _ _ _ F6 N6 (fun p hp a1 a2 a3 => .tail _ (.tail _ (k1 p (.tail _ (.tail _ hp)) a3))) (TT2.mono fun p hp => .tail _ (.tail _ hp)) ⟨⟨_, d, .tail _ (.head _), ⟨o, es, ep, .head _, q1, q2, q3, nd⟩, nf⟩, ?_⟩
  clear ret F6 N6 F5 N5
  intro A7 s7 Q7 E7 h7 L7 m7 led7 r vs n ns args place gk7 F7 N7 le7 TT7 hr hi hlen hh7 hd7 hu7 hargs hp0 hp6 ret7
  have cO := ci.le (led' := led7) (fun p hp a1 a2 a3 => le7 _ (.tail _ (.tail _ hp)) a1 a2 a3)
  have mf := le7 _ (.tail _ (.head _)) nf.1 nf.2.1 nf.2.2
  have mb7 := le7 _ (.tail _ (.tail _ (k1 _ (.tail _ (.head _)) n1.2.2))) n1.1 n1.2.1 n1.2.2
  have mt := le7 _ (.tail _ (.tail _ (k1 _ (.head _) n2.2.2))) n2.1 n2.2.1 n2.2.2
  obtain ⟨loose7, mean7, mg7, mb7', T7⟩ := B.T
  obtain ⟨ha, dp, fr, gd, un⟩ := A7
  obtain rfl : ha = none := hh7
  dsimp only at hd7 hu7
  obtain ⟨tp, hargs⟩ : ∃ tp, (args = [.ref r] ∧ place = 0 ∧ tp = tk0) ∨ args = [.ref r, .int place tp] := by
    rcases hargs with ⟨e1, e2⟩ | ⟨t, e⟩
    · exact ⟨tk0, .inl ⟨e1, e2, rfl⟩⟩
    · exact ⟨t, .inr e⟩
  refine wpAny_call ?_
  refine' enterLP (binds := [(Str.ofString "row", .ref r), (Str.ofString "place", .int place tp)]) F7 N7 (T7.nolimit.keeps gk7) (N7 _ mf).1 rfl (cO.rec N7) ?e5 ?e6 ?e7 (fun g8 L8 h8 kp8 F8 N8 lt8 => ?_) ?e8
  case e5 => show dp < _; omega
  case e6 =>
    rcases hargs with ⟨e1, e2, e3⟩ | e
    · subst e1 e2 e3
      exact kdv_binds N7 mt rfl rfl rfl
    · subst e
      exact kdv_binds N7 mt rfl rfl rfl
  case e7 => exact locs rfl
  case e8 => decide
  have T8 := T7.keeps (gk7.trans kp8)
  have X8 := B.X.keeps (gk7.trans kp8)
  tb_start
  rename_i h9 tk9 F9 N9
  refine kst_len N9 hr hi.length (by omega) ?_
  (try dsimp only)
  obtain ⟨hp6'⟩ : Nonempty (PLift (place ≤ 6)) := ⟨⟨hp6⟩⟩
  obtain ⟨hp0'⟩ : Nonempty (PLift (0 ≤ place)) := ⟨⟨hp0⟩⟩
  obtain ⟨hlen'⟩ : Nonempty (PLift (ns.length = 5)) := ⟨⟨hlen⟩⟩
  clear hp6 hp0 hlen
  tb_start
  have hp6 := hp6'.down
  have hp0 := hp0'.down
  have hlen := hlen'.down
  rename_i h10 tk10 t10 u10 v10 R10 F10 N10 k10
  have hlo : 1 ≤ (if place > 1 then place else 1) ∧ (if place > 1 then place else 1) ≤ 6 := by split <;> omega
  refine kst_range (σ := Unit) (fun _ => led7) (fun _ => []) (fun _ => True) [] (fun pre _ => NoneYet (turnP false ns) (if place > 1 then place else 1) pre.length) () rfl R10 (small_one (by omega) (by omega) (by omega) (by omega)) (rangeSize_nat _ _) F10 N10 trivial (fun _ h => nomatch h) (NoneYet.start _ _) ?_ ?_
  · intro c pre k t u h11 tk11 own hk hlt hoff _ hP F11 N11
    dsimp only [kstB] at F11
    dsimp only
    have gk8 := gk7.trans kp8
    have mem7 : (r, listOf vs.toArray n) ∈ led7 ++ own := List.mem_append_left _ hr
    tb_start
    refine getitem_K B gk8 F11 N11 (by show dp + 1 < _; omega) mem7 hi (by omega) (by omega) (by omega) ?_
    intro t12 h12 tk12 F12 N12
    (try dsimp only)
    (try k_sweep)
    tb_start
    refine getitem_K B gk8 F12 N12 (by show dp + 1 < _; omega) mem7 hi (by omega) (by omega) (by omega) ?_
    intro t13 h13 tk13 F13 N13
    (try dsimp only)
    (try k_sweep)
    tb_start
    refine lt_K B gk8 F13 N13 (by show dp + 1 < _; omega) ?_
    intro h14 tk14 F14 N14
    (try dsimp only)
    (try k_sweep)
    tb_start
    · rename_i hcmp
      have hpk : turnP false ns k = true := by unfold turnP relB; simpa using hcmp
      refine hit_lc B gk8 F14 N14 (TT7.mono fun p hp => List.mem_append_left _ hp) (by show dp + 1 < _; omega) ?_
      intro v15 h15 tk15 led15 F15 N15 le15 TT15 H15
      (try dsimp only)
      tb_start
      dsimp only [InvPostN]
      refine leaveK_ F15 N15 fun F16 N16 => ret7 _ _ _ led15 F16 N16 (fun p hp => le15 p (List.mem_append_left _ hp)) TT15 ?_
      rw [turnF_some hP hk hlt hpk]
      exact ⟨v15, rfl, H15⟩
    · rename_i hcmp
      have hpk : turnP false ns k = false := by unfold turnP relB; simpa using hcmp
      dsimp only [InvPostN]
      exact kst_end () F14 N14 (fun p hp => List.mem_append_left _ hp) (fun p hp => List.mem_append_right _ hp) rfl trivial (fun _ h => nomatch h) (fun z h1 _ _ => by rw [if_neg h1]; rfl) (hP.step hk hpk)
  · intro c u h11 tk11 _ hP F11 N11
    dsimp only [kstB] at F11
    dsimp only
    tb_start
    rw [rangeKs_length] at hP
    refine leaveK_ F11 N11 fun F12 N12 => ret7 _ _ _ _ F12 N12 (LE.refl _) TT7 ?_
    rw [turnF_none hP rfl]
    exact rfl

set_option maxHeartbeats 4000000 in
theorem turns_gt_lc (B : Bs w g) (gk : Keep g h₀) (F : Fr h₀ L s.heap m) (N : News h₀ L s.heap led) (TT : TLs led) (hd : A.depth < recursionLimit)
    (ret : ∀ v h' tk led', Fr h₀ L h' m → News h₀ L h' led' → LE led led' → TLs led' → SearchIn w g led' v (turnF true) → Q (.ref v) { s with heap := h', toks := tk }) : wpAny (model PySem.Challenge.rw_pe0030_01.row.prog w) A (call (.ref 63) [.ref 35]) Q E s := by
  refine wpAny_call ?_
  refine' enterKC (binds := [(Str.ofString "before", .ref 35)]) B gk F N ?e3 ?e4 ?e5 ?e6 ?e7 ?e8 ?_ ?c1 ?c2 ?c3
  case e3 => k_is
  case e4 => k_is
  case e6 => exact BindsTo.of_eq rfl
  case e7 => exact rfl
  case e8 => decide +kernel
  case c1 => rfl
  case c2 => rfl
  case c3 => rfl
  case e5 => first | omega | (show dp < _; omega) | (show A.depth < _; omega)
  intro g' L' h₁ tk0 cells loose mean mg mb kp F1 N1 Y lt1 X T c65 c51 c58
  k_cells Y
  (try simp only [List.cons_append, List.nil_append] at N1)
  tb_start
  rename_i ob db t2 h2 F2 N2 l2
  have TT1 : TLs ((t2, _) :: (L' + 1, ob) :: led) := TT.mono (led' := (t2, kdv_tup [.int 0 tk0]) :: (L' + 1, ob) :: led) fun p hp => .tail _ (.tail _ hp)
  refine nestL1 F2 N2 T c58 rfl (.inr (.inr rfl)) TT1 TT1.t58 rfl ?_
  intro f c' ctv doc h3 tk3 led3 F3 N3 k1 k2 k3 ci lt3
  dsimp only
  tb_start
  rename_i h4 F4 N4
  refine setAttr_L fnNoSearch F4 N4 lt3 ?_
  intro d o es ep h5 tk5 F5 N5 q1 q2 q3 lt5
  dsimp only
  tb_start
  have TT2 : TLs led3 := ⟨k3 _ _ _ (by decide) TT1.t65, k3 _ _ _ (by decide) TT1.t51, k2⟩
  have nf := offT (tabLt TT2 lt3).1
  have nL := (tabLt TT lt1).1
  have nd := offT (Nat.lt_trans (tabLt TT2 lt3).1 lt5)
  have n1 := offT (Nat.lt_succ_of_lt nL)
  have n2 := offT (Nat.lt_trans (Nat.lt_succ_of_lt nL) l2.1)
  refine leaveK_ F5 N5 fun F6 N6 => ret f _ _ _ F6 N6 (fun p hp a1 a2 a3 => .tail _ (.tail _ (k1 p (.tail _ (.tail _ hp)) a3))) (TT2.mono fun p hp => .tail _ (.tail _ hp)) ⟨⟨_, d, .tail _ (.head _), ⟨o, es, ep, .head _, q1, q2, q3, nd⟩, nf⟩, ?_⟩
  clear ret F6 N6 F5 N5
  intro A7 s7 Q7 E7 h7 L7 m7 led7 r vs n ns args place gk7 F7 N7 le7 TT7 hr hi hlen hh7 hd7 hu7 hargs hp0 hp6 ret7
  have cO := ci.le (led' := led7) (fun p hp a1 a2 a3 => le7 _ (.tail _ (.tail _ hp)) a1 a2 a3)
  have mf := le7 _ (.tail _ (.head _)) nf.1 nf.2.1 nf.2.2
  have mb7 := le7 _ (.tail _ (.tail _ (k1 _ (.tail _ (.head _)) n1.2.2))) n1.1 n1.2.1 n1.2.2
  have mt := le7 _ (.tail _ (.tail _ (k1 _ (.head _) n2.2.2))) n2.1 n2.2.1 n2.2.2
  obtain ⟨loose7, mean7, mg7, mb7', T7⟩ := B.T
  obtain ⟨ha, dp, fr, gd, un⟩ := A7
  obtain rfl : ha = none := hh7
  dsimp only at hd7 hu7
  obtain ⟨tp, hargs⟩ : ∃ tp, (args = [.ref r] ∧ place = 0 ∧ tp = tk0) ∨ args = [.ref r, .int place tp] := by
    rcases hargs with ⟨e1, e2⟩ | ⟨t, e⟩
    · exact ⟨tk0, .inl ⟨e1, e2, rfl⟩⟩
    · exact ⟨t, .inr e⟩
  refine wpAny_call ?_
  refine' enterLP (binds := [(Str.ofString "row", .ref r), (Str.ofString "place", .int place tp)]) F7 N7 (T7.nolimit.keeps gk7) (N7 _ mf).1 rfl (cO.rec N7) ?e5 ?e6 ?e7 (fun g8 L8 h8 kp8 F8 N8 lt8 => ?_) ?e8
  case e5 => show dp < _; omega
  case e6 =>
    rcases hargs with ⟨e1, e2, e3⟩ | e
    · subst e1 e2 e3
      exact kdv_binds N7 mt rfl rfl rfl
    · subst e
      exact kdv_binds N7 mt rfl rfl rfl
  case e7 => exact locs rfl
  case e8 => decide
  have T8 := T7.keeps (gk7.trans kp8)
  have X8 := B.X.keeps (gk7.trans kp8)
  tb_start
  rename_i h9 tk9 F9 N9
  refine kst_len N9 hr hi.length (by omega) ?_
  (try dsimp only)
  obtain ⟨hp6'⟩ : Nonempty (PLift (place ≤ 6)) := ⟨⟨hp6⟩⟩
  obtain ⟨hp0'⟩ : Nonempty (PLift (0 ≤ place)) := ⟨⟨hp0⟩⟩
  obtain ⟨hlen'⟩ : Nonempty (PLift (ns.length = 5)) := ⟨⟨hlen⟩⟩
  clear hp6 hp0 hlen
  tb_start
  have hp6 := hp6'.down
  have hp0 := hp0'.down
  have hlen := hlen'.down
  rename_i h10 tk10 t10 u10 v10 R10 F10 N10 k10
  have hlo : 1 ≤ (if place > 1 then place else 1) ∧ (if place > 1 then place else 1) ≤ 6 := by split <;> omega
  refine kst_range (σ := Unit) (fun _ => led7) (fun _ => []) (fun _ => True) [] (fun pre _ => NoneYet (turnP true ns) (if place > 1 then place else 1) pre.length) () rfl R10 (small_one (by omega) (by omega) (by omega) (by omega)) (rangeSize_nat _ _) F10 N10 trivial (fun _ h => nomatch h) (NoneYet.start _ _) ?_ ?_
  · intro c pre k t u h11 tk11 own hk hlt hoff _ hP F11 N11
    dsimp only [kstB] at F11
    dsimp only
    have gk8 := gk7.trans kp8
    have mem7 : (r, listOf vs.toArray n) ∈ led7 ++ own := List.mem_append_left _ hr
    tb_start
    refine getitem_K B gk8 F11 N11 (by show dp + 1 < _; omega) mem7 hi (by omega) (by omega) (by omega) ?_
    intro t12 h12 tk12 F12 N12
    (try dsimp only)
    (try k_sweep)
    tb_start
    refine getitem_K B gk8 F12 N12 (by show dp + 1 < _; omega) mem7 hi (by omega) (by omega) (by omega) ?_
    intro t13 h13 tk13 F13 N13
    (try dsimp only)
    (try k_sweep)
    tb_start
    refine gt_K B gk8 F13 N13 (by show dp + 1 < _; omega) ?_
    intro h14 tk14 F14 N14
    (try dsimp only)
    (try k_sweep)
    tb_start
    · rename_i hcmp
      have hpk : turnP true ns k = true := by unfold turnP relB; simpa using hcmp
      refine hit_lc B gk8 F14 N14 (TT7.mono fun p hp => List.mem_append_left _ hp) (by show dp + 1 < _; omega) ?_
      intro v15 h15 tk15 led15 F15 N15 le15 TT15 H15
      (try dsimp only)
      tb_start
      dsimp only [InvPostN]
      refine leaveK_ F15 N15 fun F16 N16 => ret7 _ _ _ led15 F16 N16 (fun p hp => le15 p (List.mem_append_left _ hp)) TT15 ?_
      rw [turnF_some hP hk hlt hpk]
      exact ⟨v15, rfl, H15⟩
    · rename_i hcmp
      have hpk : turnP true ns k = false := by unfold turnP relB; simpa using hcmp
      dsimp only [InvPostN]
      exact kst_end () F14 N14 (fun p hp => List.mem_append_left _ hp) (fun p hp => List.mem_append_right _ hp) rfl trivial (fun _ h => nomatch h) (fun z h1 _ _ => by rw [if_neg h1]; rfl) (hP.step hk hpk)
  · intro c u h11 tk11 _ hP F11 N11
    dsimp only [kstB] at F11
    dsimp only
    tb_start
    rw [rangeKs_length] at hP
    refine leaveK_ F11 N11 fun F12 N12 => ret7 _ _ _ _ F12 N12 (LE.refl _) TT7 ?_
    rw [turnF_none hP rfl]
    exact rfl

end
end Mine
end PartL3
section PartL4
open PySem PySem.W PySem.Calls PySem.Spec PyProof.Rows
theorem Mine.calmL4 : True := by w_top off; k_with_none; trivial
set_option maxRecDepth 100000
namespace Mine
theorem fillK6 (w : World) (g : Heap) (X : (hd0.heap_39 w.params).In g) : (hd0.heap_39 w.params).In g ∧ PySem.Challenge.rw_pe0030_01 = PySem.Challenge.rw_pe0030_01 := by
  k_fill
  exact ⟨X, rfl⟩
local macro_rules | `(tactic| k_mem) => `(tactic| first | with_reducible assumption | (with_reducible exact List.mem_append_left _ (by with_reducible assumption)))
local macro_rules | `(tactic| kmk_nums) => `(tactic| first | ((with_reducible refine' kmk_from ?gi ?gx); (case gi => l_ints); (case gx => omega)) | ((with_reducible refine' kmk_upto ?gi ?gx); (case gi => l_ints); (case gx => omega)))
local macro_rules | `(tactic| tb_start) => `(tactic| repeat' (first | ((fail_if_success (with_reducible show wpAny _ _ (pyIter _) _ _ _)); (fail_if_success (with_reducible show InvPostN _ _ _ _ _ _ _ _ _)); (fail_if_success (with_reducible show InvEndN _ _ _ _ _ _ _)); (first | (k_unfold; (try dsimp only)) | (k_end; wrow_close) | walk1 | (dsimp only; walk1) | (leave1; walk_say "STEP leave1"; try dsimp only))) | fail "no step"))

section
variable {w : World} {g : Heap} {A : Around} {s : Shared} {Q E : Value → Shared → Prop} {h₀ : Heap} {L : Addr} {m : Str → Option Value} {led : List (Addr × Obj)}

set_option maxHeartbeats 4000000 in
theorem beyond_lt_lc {x : Int} {tx : Tok} (B : Bs w g) (gk : Keep g h₀) (F : Fr h₀ L s.heap m) (N : News h₀ L s.heap led) (TT : TLs led) (hd : A.depth < recursionLimit)
    (ret : ∀ v h' tk led', Fr h₀ L h' m → News h₀ L h' led' → LE led led' → TLs led' → SearchIn w g led' v (beyF false x) → Q (.ref v) { s with heap := h', toks := tk }) : wpAny (model PySem.Challenge.rw_pe0030_01.row.prog w) A (call (.ref 70) [.ref 28, .int x tx]) Q E s := by
  refine wpAny_call ?_
  refine' enterKC (binds := [(Str.ofString "before", .ref 28), (Str.ofString "thing", .int x tx)]) B gk F N ?e3 ?e4 ?e5 ?e6 ?e7 ?e8 ?_ ?c1 ?c2 ?c3
  case e3 => k_is
  case e4 => k_is
  case e6 => exact BindsTo.of_eq rfl
  case e7 => exact rfl
  case e8 => decide +kernel
  case c1 => rfl
  case c2 => rfl
  case c3 => rfl
  case e5 => first | omega | (show dp < _; omega) | (show A.depth < _; omega)
  intro g' L' h₁ tk0 cells loose mean mg mb kp F1 N1 Y lt1 X T c65 c51 c58
  k_cells Y
  (try simp only [List.cons_append, List.nil_append] at N1)
  tb_start
  rename_i ot ob dt db t2 h2 F2 N2 l2
  have TT1 : TLs ((t2, _) :: (L' + 1 + 1, ot) :: (L' + 1, ob) :: led) := TT.mono (led' := (t2, kdv_tup [.int 0 tk0]) :: (L' + 1 + 1, ot) :: (L' + 1, ob) :: led) fun p hp => .tail _ (.tail _ (.tail _ hp))
  refine nestL1 F2 N2 T c65 rfl (.inl rfl) TT1 TT1.t65 rfl ?_
  intro f c' ctv doc h3 tk3 led3 F3 N3 k1 k2 k3 ci lt3
  dsimp only
  tb_start
  rename_i h4 F4 N4
  refine setAttr_L fnNoSearch F4 N4 lt3 ?_
  intro d o es ep h5 tk5 F5 N5 q1 q2 q3 lt5
  dsimp only
  tb_start
  have TT2 : TLs led3 := ⟨k2, k3 _ _ _ (by decide) TT1.t51, k3 _ _ _ (by decide) TT1.t58⟩
  have nf := offT (tabLt TT2 lt3).1
  have nL := (tabLt TT lt1).1
  have nd := offT (Nat.lt_trans (tabLt TT2 lt3).1 lt5)
  have n1 := offT (Nat.lt_succ_of_lt nL)
  have n2 := offT (Nat.lt_trans (Nat.lt_succ_of_lt (Nat.lt_succ_of_lt nL)) l2.1)
  have n3 := offT (Nat.lt_succ_of_lt (Nat.lt_succ_of_lt nL))
  refine leaveK_ F5 N5 fun F6 N6 => ret f _ _ _ F6 N6 (fun p hp a1 a2 a3 => .tail _ (.tail _ (k1 p (.tail _ (.tail _ (.tail _ hp))) a1))) (TT2.mono fun p hp => .tail _ (.tail _ hp)) ⟨⟨_, d, .tail _ (.head _), ⟨o, es, ep, .head _, q1, q2, q3, nd⟩, nf⟩, ?_⟩
  clear ret F6 N6 F5 N5
  intro A7 s7 Q7 E7 h7 L7 m7 led7 r vs n ns args place gk7 F7 N7 le7 TT7 hr hi hlen hh7 hd7 hu7 hargs hp0 hp6 ret7
  have cO := ci.le (led' := led7) (fun p hp a1 a2 a3 => le7 _ (.tail _ (.tail _ hp)) a1 a2 a3)
  have mf := le7 _ (.tail _ (.head _)) nf.1 nf.2.1 nf.2.2
  have mb7 := le7 _ (.tail _ (.tail _ (k1 _ (.tail _ (.tail _ (.head _))) n1.1))) n1.1 n1.2.1 n1.2.2
  have mx7 := le7 _ (.tail _ (.tail _ (k1 _ (.tail _ (.head _)) n3.1))) n3.1 n3.2.1 n3.2.2
  have mt := le7 _ (.tail _ (.tail _ (k1 _ (.head _) n2.1))) n2.1 n2.2.1 n2.2.2
  obtain ⟨loose7, mean7, mg7, mb7', T7⟩ := B.T
  obtain ⟨ha, dp, fr, gd, un⟩ := A7
  obtain rfl : ha = none := hh7
  dsimp only at hd7 hu7
  obtain ⟨tp, hargs⟩ : ∃ tp, (args = [.ref r] ∧ place = 0 ∧ tp = tk0) ∨ args = [.ref r, .int place tp] := by
    rcases hargs with ⟨e1, e2⟩ | ⟨t, e⟩
    · exact ⟨tk0, .inl ⟨e1, e2, rfl⟩⟩
    · exact ⟨t, .inr e⟩
  refine wpAny_call ?_
  refine' enterLP (binds := [(Str.ofString "row", .ref r), (Str.ofString "place", .int place tp)]) F7 N7 (T7.nolimit.keeps gk7) (N7 _ mf).1 rfl (cO.rec N7) ?e5 ?e6 ?e7 (fun g8 L8 h8 kp8 F8 N8 lt8 => ?_) ?e8
  case e5 => show dp < _; omega
  case e6 =>
    rcases hargs with ⟨e1, e2, e3⟩ | e
    · subst e1 e2 e3
      exact kdv_binds N7 mt rfl rfl rfl
    · subst e
      exact kdv_binds N7 mt rfl rfl rfl
  case e7 => exact locs rfl
  case e8 => decide
  have T8 := T7.keeps (gk7.trans kp8)
  have X8 := B.X.keeps (gk7.trans kp8)
  obtain ⟨hp6'⟩ : Nonempty (PLift (place ≤ 6)) := ⟨⟨hp6⟩⟩
  obtain ⟨hp0'⟩ : Nonempty (PLift (0 ≤ place)) := ⟨⟨hp0⟩⟩
  obtain ⟨hlen'⟩ : Nonempty (PLift (ns.length = 5)) := ⟨⟨hlen⟩⟩
  clear hp6 hp0 hlen
  tb_start
  refine kst_len N8 hr hi.length (by have := hlen'.down; omega) ?_
  (try dsimp only)
  tb_start
  have hp6 := hp6'.down
  have hp0 := hp0'.down
  have hlen := hlen'.down
  rename_i h10 tk10 t10 u10 v10 R10 F10 N10 k10
  refine kst_range (σ := Unit) (fun _ => led7) (fun _ => []) (fun _ => True) [] (fun pre _ => NoneYet (beyP false x ns) place pre.length) () rfl R10 (small_one (by omega) (by omega) (by omega) (by omega)) (rangeSize_nat _ _) F10 N10 trivial (fun _ h => nomatch h) (NoneYet.start _ _) ?_ ?_
  · intro c pre k t u h11 tk11 own hk hlt hoff _ hP F11 N11
    dsimp only [kstB] at F11
    dsimp only
    have gk8 := gk7.trans kp8
    have mem7 : (r, listOf vs.toArray n) ∈ led7 ++ own := List.mem_append_left _ hr
    tb_start
    refine getitem_K B gk8 F11 N11 (by show dp + 1 < _; omega) mem7 hi (by omega) (by omega) (by omega) ?_
    intro t13 h13 tk13 F13 N13
    (try dsimp only)
    (try k_sweep)
    tb_start
    refine lt_K B gk8 F13 N13 (by show dp + 1 < _; omega) ?_
    intro h14 tk14 F14 N14
    (try dsimp only)
    (try k_sweep)
    tb_start
    · rename_i hcmp
      have hpk : beyP false x ns k = true := by unfold beyP relB; simpa using hcmp
      refine hit_lc B gk8 F14 N14 (TT7.mono fun p hp => List.mem_append_left _ hp) (by show dp + 1 < _; omega) ?_
      intro v15 h15 tk15 led15 F15 N15 le15 TT15 H15
      (try dsimp only)
      tb_start
      dsimp only [InvPostN]
      refine leaveK_ F15 N15 fun F16 N16 => ret7 _ _ _ led15 F16 N16 (fun p hp => le15 p (List.mem_append_left _ hp)) TT15 ?_
      rw [beyF_some hP hk hlt hpk]
      exact ⟨v15, rfl, H15⟩
    · rename_i hcmp
      have hpk : beyP false x ns k = false := by unfold beyP relB; simpa using hcmp
      dsimp only [InvPostN]
      exact kst_end () F14 N14 (fun p hp => List.mem_append_left _ hp) (fun p hp => List.mem_append_right _ hp) rfl trivial (fun _ h => nomatch h) (fun z h1 _ _ => by rw [if_neg h1]; rfl) (hP.step hk hpk)
  · intro c u h11 tk11 _ hP F11 N11
    dsimp only [kstB] at F11
    dsimp only
    tb_start
    rw [rangeKs_length] at hP
    refine leaveK_ F11 N11 fun F12 N12 => ret7 _ _ _ _ F12 N12 (LE.refl _) TT7 ?_
    rw [beyF_none hP rfl]
    exact rfl

set_option maxHeartbeats 4000000 in
theorem beyond_gt_lc {x : Int} {tx : Tok} (B : Bs w g) (gk : Keep g h₀) (F : Fr h₀ L s.heap m) (N : News h₀ L s.heap led) (TT : TLs led) (hd : A.depth < recursionLimit)
    (ret : ∀ v h' tk led', Fr h₀ L h' m → News h₀ L h' led' → LE led led' → TLs led' → SearchIn w g led' v (beyF true x) → Q (.ref v) { s with heap := h', toks := tk }) : wpAny (model PySem.Challenge.rw_pe0030_01.row.prog w) A (call (.ref 70) [.ref 35, .int x tx]) Q E s := by
  refine wpAny_call ?_
  refine' enterKC (binds := [(Str.ofString "before", .ref 35), (Str.ofString "thing", .int x tx)]) B gk F N ?e3 ?e4 ?e5 ?e6 ?e7 ?e8 ?_ ?c1 ?c2 ?c3
  case e3 => k_is
  case e4 => k_is
  case e6 => exact BindsTo.of_eq rfl
  case e7 => exact rfl
  case e8 => decide +kernel
  case c1 => rfl
  case c2 => rfl
  case c3 => rfl
  case e5 => first | omega | (show dp < _; omega) | (show A.depth < _; omega)
  intro g' L' h₁ tk0 cells loose mean mg mb kp F1 N1 Y lt1 X T c65 c51 c58
  k_cells Y
  (try simp only [List.cons_append, List.nil_append] at N1)
  tb_start
  rename_i ot ob dt db t2 h2 F2 N2 l2
  have TT1 : TLs ((t2, _) :: (L' + 1 + 1, ot) :: (L' + 1, ob) :: led) := TT.mono (led' := (t2, kdv_tup [.int 0 tk0]) :: (L' + 1 + 1, ot) :: (L' + 1, ob) :: led) fun p hp => .tail _ (.tail _ (.tail _ hp))
  refine nestL1 F2 N2 T c65 rfl (.inl rfl) TT1 TT1.t65 rfl ?_
  intro f c' ctv doc h3 tk3 led3 F3 N3 k1 k2 k3 ci lt3
  dsimp only
  tb_start
  rename_i h4 F4 N4
  refine setAttr_L fnNoSearch F4 N4 lt3 ?_
  intro d o es ep h5 tk5 F5 N5 q1 q2 q3 lt5
  dsimp only
  tb_start
  have TT2 : TLs led3 := ⟨k2, k3 _ _ _ (by decide) TT1.t51, k3 _ _ _ (by decide) TT1.t58⟩
  have nf := offT (tabLt TT2 lt3).1
  have nL := (tabLt TT lt1).1
  have nd := offT (Nat.lt_trans (tabLt TT2 lt3).1 lt5)
  have n1 := offT (Nat.lt_succ_of_lt nL)
  have n2 := offT (Nat.lt_trans (Nat.lt_succ_of_lt (Nat.lt_succ_of_lt nL)) l2.1)
  have n3 := offT (Nat.lt_succ_of_lt (Nat.lt_succ_of_lt nL))
  refine leaveK_ F5 N5 fun F6 N6 => ret f _ _ _ F6 N6 (fun p hp a1 a2 a3 => .tail _ (.tail _ (k1 p (.tail _ (.tail _ (.tail _ hp))) a1))) (TT2.mono fun p hp => .tail _ (.tail _ hp)) ⟨⟨_, d, .tail _ (.head _), ⟨o, es, ep, .head _, q1, q2, q3, nd⟩, nf⟩, ?_⟩
  clear ret F6 N6 F5 N5
  intro A7 s7 Q7 E7 h7 L7 m7 led7 r vs n ns args place gk7 F7 N7 le7 TT7 hr hi hlen hh7 hd7 hu7 hargs hp0 hp6 ret7
  have cO := ci.le (led' := led7) (fun p hp a1 a2 a3 => le7 _ (.tail _ (.tail _ hp)) a1 a2 a3)
  have mf := le7 _ (.tail _ (.head _)) nf.1 nf.2.1 nf.2.2
  have mb7 := le7 _ (.tail _ (.tail _ (k1 _ (.tail _ (.tail _ (.head _))) n1.1))) n1.1 n1.2.1 n1.2.2
  have mx7 := le7 _ (.tail _ (.tail _ (k1 _ (.tail _ (.head _)) n3.1))) n3.1 n3.2.1 n3.2.2
  have mt := le7 _ (.tail _ (.tail _ (k1 _ (.head _) n2.1))) n2.1 n2.2.1 n2.2.2
  obtain ⟨loose7, mean7, mg7, mb7', T7⟩ := B.T
  obtain ⟨ha, dp, fr, gd, un⟩ := A7
  obtain rfl : ha = none := hh7
  dsimp only at hd7 hu7
  obtain ⟨tp, hargs⟩ : ∃ tp, (args = [.ref r] ∧ place = 0 ∧ tp = tk0) ∨ args = [.ref r, .int place tp] := by
    rcases hargs with ⟨e1, e2⟩ | ⟨t, e⟩
    · exact ⟨tk0, .inl ⟨e1, e2, rfl⟩⟩
    · exact ⟨t, .inr e⟩
  refine wpAny_call ?_
  refine' enterLP (binds := [(Str.ofString "row", .ref r), (Str.ofString "place", .int place tp)]) F7 N7 (T7.nolimit.keeps gk7) (N7 _ mf).1 rfl (cO.rec N7) ?e5 ?e6 ?e7 (fun g8 L8 h8 kp8 F8 N8 lt8 => ?_) ?e8
  case e5 => show dp < _; omega
  case e6 =>
    rcases hargs with ⟨e1, e2, e3⟩ | e
    · subst e1 e2 e3
      exact kdv_binds N7 mt rfl rfl rfl
    · subst e
      exact kdv_binds N7 mt rfl rfl rfl
  case e7 => exact locs rfl
  case e8 => decide
  have T8 := T7.keeps (gk7.trans kp8)
  have X8 := B.X.keeps (gk7.trans kp8)
  obtain ⟨hp6'⟩ : Nonempty (PLift (place ≤ 6)) := ⟨⟨hp6⟩⟩
  obtain ⟨hp0'⟩ : Nonempty (PLift (0 ≤ place)) := ⟨⟨hp0⟩⟩
  obtain ⟨hlen'⟩ : Nonempty (PLift (ns.length = 5)) := ⟨⟨hlen⟩⟩
  clear hp6 hp0 hlen
  tb_start
  refine kst_len N8 hr hi.length (by have := hlen'.down; omega) ?_
  (try dsimp only)
  tb_start
  have hp6 := hp6'.down
  have hp0 := hp0'.down
  have hlen := hlen'.down
  rename_i h10 tk10 t10 u10 v10 R10 F10 N10 k10
  refine kst_range (σ := Unit) (fun _ => led7) (fun _ => []) (fun _ => True) [] (fun pre _ => NoneYet (beyP true x ns) place pre.length) () rfl R10 (small_one (by omega) (by omega) (by omega) (by omega)) (rangeSize_nat _ _) F10 N10 trivial (fun _ h => nomatch h) (NoneYet.start _ _) ?_ ?_
  · intro c pre k t u h11 tk11 own hk hlt hoff _ hP F11 N11
    dsimp only [kstB] at F11
    dsimp only
    have gk8 := gk7.trans kp8
    have mem7 : (r, listOf vs.toArray n) ∈ led7 ++ own := List.mem_append_left _ hr
    tb_start
    refine getitem_K B gk8 F11 N11 (by show dp + 1 < _; omega) mem7 hi (by omega) (by omega) (by omega) ?_
    intro t13 h13 tk13 F13 N13
    (try dsimp only)
    (try k_sweep)
    tb_start
    refine gt_K B gk8 F13 N13 (by show dp + 1 < _; omega) ?_
    intro h14 tk14 F14 N14
    (try dsimp only)
    (try k_sweep)
    tb_start
    · rename_i hcmp
      have hpk : beyP true x ns k = true := by unfold beyP relB; simpa using hcmp
      refine hit_lc B gk8 F14 N14 (TT7.mono fun p hp => List.mem_append_left _ hp) (by show dp + 1 < _; omega) ?_
      intro v15 h15 tk15 led15 F15 N15 le15 TT15 H15
      (try dsimp only)
      tb_start
      dsimp only [InvPostN]
      refine leaveK_ F15 N15 fun F16 N16 => ret7 _ _ _ led15 F16 N16 (fun p hp => le15 p (List.mem_append_left _ hp)) TT15 ?_
      rw [beyF_some hP hk hlt hpk]
      exact ⟨v15, rfl, H15⟩
    · rename_i hcmp
      have hpk : beyP true x ns k = false := by unfold beyP relB; simpa using hcmp
      dsimp only [InvPostN]
      exact kst_end () F14 N14 (fun p hp => List.mem_append_left _ hp) (fun p hp => List.mem_append_right _ hp) rfl trivial (fun _ h => nomatch h) (fun z h1 _ _ => by rw [if_neg h1]; rfl) (hP.step hk hpk)
  · intro c u h11 tk11 _ hP F11 N11
    dsimp only [kstB] at F11
    dsimp only
    tb_start
    rw [rangeKs_length] at hP
    refine leaveK_ F11 N11 fun F12 N12 => ret7 _ _ _ _ F12 N12 (LE.refl _) TT7 ?_
    rw [beyF_none hP rfl]
    exact rfl

end
end Mine
end PartL4
section PartL5
open PySem PySem.W PySem.Calls PySem.Spec PyProof.Rows
theorem Mine.calmL5 : True := by w_top off; k_with_none; trivial
set_option maxRecDepth 100000
namespace Mine
theorem fillK7 (w : World) (g : Heap) (X : (hd0.heap_39 w.params).In g) : (hd0.heap_39 w.params).In g ∧ PySem.Challenge.rw_pe0030_01 = PySem.Challenge.rw_pe0030_01 := by
  k_fill
  exact ⟨X, rfl⟩
local macro_rules | `(tactic| k_mem) => `(tactic| first | with_reducible assumption | (with_reducible exact List.mem_append_left _ (by with_reducible assumption)))
local macro_rules | `(tactic| kmk_nums) => `(tactic| first | ((with_reducible refine' kmk_from ?gi ?gx); (case gi => l_ints); (case gx => omega)) | ((with_reducible refine' kmk_upto ?gi ?gx); (case gi => l_ints); (case gx => omega)))
local macro_rules | `(tactic| tb_start) => `(tactic| repeat' (first | ((fail_if_success (with_reducible show wpAny _ _ (pyIter _) _ _ _)); (fail_if_success (with_reducible show wpAny _ _ (exec (Stmt.While _ _ _ _) _) _ _ _)); (fail_if_success (with_reducible show KswPost _ _ _ _ _ _ _ _ _ _ _ _ _ _)); (fail_if_success (with_reducible show InvPostN _ _ _ _ _ _ _ _ _)); (fail_if_success (with_reducible show InvEndN _ _ _ _ _ _ _)); (first | (k_unfold; (try dsimp only)) | (k_end; wrow_close) | walk1 | (dsimp only; walk1) | (leave1; walk_say "STEP leave1"; try dsimp only))) | fail "no step"))

section
variable {w : World} {g : Heap} {A : Around} {s : Shared} {h₀ : Heap} {L : Addr} {m : Str → Option Value} {news : List (Addr × Obj)}
  {R : Result → Shared → Prop} {name qual : Str} {params : Arguments} {body : List Stmt} {scope : Scope} {dV kV doc pm cdv ct oc : Value} {an od : Option Addr} {osl : Array (Option Value)} {f : Addr} {args : Args} {binds : List (Str × Value)}
theorem enterKP (B : Bs w g) (gk : Keep g h₀) (F : Fr h₀ L s.heap m) (N : News h₀ L s.heap news)
    (ho : (hd0.heap_39 w.params).lookup f = some ⟨oc, od, .func (fnX name qual params body scope [] dV kV doc pm an cdv ct), osl⟩) (hcd : codeIn (hd0.heap_39 w.params) cdv qual = true) (hroom : A.depth < recursionLimit)
    (hbind : BindsTo s (fnX name qual params body scope [] dV kV doc pm an cdv ct) args binds) (hloc : ∀ y ∈ binds, scope.names.lookup y.1 = some .local)
    (h : ∀ (g' : Heap) (L' : Addr) (h₁ : Heap) (loose : List Str) (mean : ExcName → Option Value) (mg mb : Str → Option Value), Keep h₀ g' → Fr g' L' h₁ (fun y => binds.reverse.lookup y) → News g' L' h₁ news → (∀ p ∈ news, p.1 < L') →
      (hd0.heap_39 w.params).In g' → Top topProg loose mean mg mb g' → CodeHd g' 69 65 → CodeHd g' 55 51 → CodeHd g' 62 58 →
      wpAny (model PySem.Challenge.rw_pe0030_01.row.prog w) (A.deeper (envX qual scope L' f cdv [])) (execs body (envX qual scope L' f cdv []))
        (fun fl s' => LeaveK h₀ L m g' R (match fl with | .ret v => v | _ => .none) s') (fun _ _ => False) { s with heap := h₁, toks := s.toks + binds.length })
    (hcell : ∀ x ∈ scope.names, x.2 ≠ .cell) (hco : scope.isCoroutine = false := by rfl) (hgen : scope.isGenerator = false := by rfl) (hk : scope.kind = .function := by rfl) : codeAny (model PySem.Challenge.rw_pe0030_01.row.prog w) A (.call (.ref f) args) R s := by
  obtain ⟨loose, mean, mg, mb, T⟩ := B.T
  have X := B.X.keeps (gk.trans F.keep)
  refine enterLP F N (T.nolimit.keeps gk) (X _ _ ho) rfl (codeRec_of X hcd) hroom hbind hloc (fun g' L' h₁ kp F' N' lt => ?_) hcell hco hgen hk
  have q := gk.trans kp
  exact h g' L' h₁ loose mean mg mb kp F' N' lt (B.X.keeps q) (T.keeps q) (B.c65.keeps q) (B.c51.keeps q) (B.c58.keeps q)
end

theorem offTab {h₀ h : Heap} {L : Addr} {led : List (Addr × Obj)} {r : Addr} {o : Obj} (N : News h₀ L h led) (TT : TLs led) (hr : (r, o) ∈ led) (hc : o.cls ≠ .none) : r ≠ 65 ∧ r ≠ 51 ∧ r ≠ 58 := by
  have e := (N _ hr).1
  obtain ⟨⟨_, a, _⟩, ⟨_, b, _⟩, ⟨_, c, _⟩⟩ := TT
  refine ⟨?_, ?_, ?_⟩ <;> rintro rfl
  · have q := (N _ a).1; rw [e] at q; cases q; exact hc rfl
  · have q := (N _ b).1; rw [e] at q; cases q; exact hc rfl
  · have q := (N _ c).1; rw [e] at q; cases q; exact hc rfl
/-- the state of search_reverse's loop -/
structure SrSt where
  k : Int
  ti : Tok
  tj : Tok
  fm : Addr
  vf : Value
  res : Option (Int × Int)
  led : List (Addr × Obj)
section
variable {w : World} {g : Heap} {A : Around} {s : Shared} {Q E : Value → Shared → Prop} {h₀ : Heap} {L : Addr} {m : Str → Option Value} {led : List (Addr × Obj)}
set_option maxHeartbeats 4000000 in
theorem sr_lc {p r : Addr} {vs : List Value} {n : Nat} {ns : List Int} {col : Int} {tc : Tok} {fnd : List Int → Int → Option (Int × Int)} {pr : Int → Bool} {e lo : Int} (B : Bs w g) (gk : Keep g h₀) (F : Fr h₀ L s.heap m) (N : News h₀ L s.heap led) (TT : TLs led)
    (hr : (r, listOf vs.toArray n) ∈ led) (hi : IntsAre vs ns) (hlen : ns.length = 5) (S : SearchIn w g led p fnd) (fo : FindsP (fnd ns) pr e lo) (hc0 : 0 ≤ col) (hc5 : col ≤ 5)
    (hh : A.handled = none) (hd : A.depth + 5 < recursionLimit) (hu : A.units + 200 < cLine)
    (ret : ∀ v h' tk led' res, Fr h₀ L h' m → News h₀ L h' led' → LE led led' → TLs led' → LastIs pr lo e col res → FoundIs w g led' v res → Q v { s with heap := h', toks := tk }) : wpAny (model PySem.Challenge.rw_pe0030_01.row.prog w) A (call (.ref 21) [.ref p, .ref r, .int col tc]) Q E s := by
  obtain ⟨ha, dp, fr, gd, un⟩ := A
  obtain rfl : ha = none := hh
  dsimp only at hd hu
  refine wpAny_call ?_
  refine' enterKP (binds := [(Str.ofString "prog", .ref p), (Str.ofString "chars", .ref r), (Str.ofString "col", .int col tc)]) B gk F N ?e3 ?e4 ?e5 ?e6 ?e7 ?_ ?e8 ?c1 ?c2 ?c3
  case e3 => k_is
  case e4 => k_is
  case e6 => exact BindsTo.of_eq rfl
  case e7 => exact locs rfl
  case e8 => decide
  case c1 => rfl
  case c2 => rfl
  case c3 => rfl
  case e5 => first | omega | (show dp < _; omega) | (show A.depth < _; omega)
  intro g' L' h₁ loose mean mg mb kp F1 N1 lt1 X T c65 c51 c58
  obtain ⟨⟨fd, d, hpm, hpd, npm⟩, S2⟩ := id S
  have gk1 := gk.trans kp
  tb_start
  refine methOf N1 ⟨d, hpm, hpd, npm⟩ fnNoSearch ?_
  (try dsimp only)
  tb_start
  refine S2 _ _ _ _ _ _ _ led r vs n ns _ 0 gk1 F1 N1 (LE.refl _) TT hr hi hlen rfl (by show dp + 1 + 3 < _; omega) (by show un + 3 + 100 < _; omega) (.inl ⟨rfl, rfl⟩) (by omega) (by omega) ?_
  intro v h2 tk2 led2 F2 N2 le2 TT2 fo2
  (try dsimp only)
  rcases fo.2.2 0 (by omega) with ⟨e0, hno⟩ | ⟨k, e0, q1, q2, q3, q4, q5⟩
  · rw [e0] at fo2
    obtain rfl : v = .none := fo2
    tb_start
    rename_i h3 F3 N3
    show LeaveK _ _ _ _ _ _ _
    exact leaveK_ F3 N3 fun F4 N4 => ret _ _ _ led2 none F4 N4 le2 TT2 (.inl ⟨rfl, fun k a b c => hno k a (by have := fo.2.1; omega) c⟩) rfl
  · rw [e0] at fo2
    obtain ⟨fm, rfl, H⟩ := fo2
    tb_start
    rename_i h3 F3 N3
    obtain ⟨⟨fdm, dm, hfm, hdm, nfm⟩, H2⟩ := id H
    refine truthy_fn (fnType N3 ⟨dm, hfm, hdm, nfm⟩) ?_
    (try dsimp only)
    tb_start
    rename_i h4 F4 N4
    refine methOf N4 ⟨dm, hfm, hdm, nfm⟩ fnNoSpan ?_
    (try dsimp only)
    tb_start
    refine H2 _ _ _ _ _ _ _ led2 gk1 F4 N4 (LE.refl _) (by show dp + 1 < _; omega) ?_
    intro pt ti tj h5 tk5 F5 N5 lt5
    (try dsimp only)
    tb_start
    rename_i h6 h7 h8 F8 N8
    have he := fo.1
    refine ksw_while (σ := SrSt) (fun c => c.led) (fun c => [(Str.ofString "j", .int (c.k + e) c.tj), (Str.ofString "i", .int c.k c.ti), (Str.ofString "found", c.vf), (Str.ofString "m", .ref c.fm)]) (fun _ => True) []
      (fun c => LE led c.led ∧ TLs c.led ∧ HitIn w g c.led c.fm c.k (c.k + e) ∧ FoundIs w g c.led c.vf c.res ∧ SrInv pr lo e col c.k c.res) (fun c => (5 - c.k).toNat) ⟨k, ti, tj, fm, .none, none, _⟩ F8 N8 trivial ?_ ?_ ?_
    · kst_all
    · refine ⟨le2.cons _, TT2.mono fun p hp => .tail _ hp, H.le ((LE.refl _).cons _), rfl, q1, q3, q4, .inl ⟨rfl, fun k' a b => q5 k' a (by have := fo.2.1; omega) b⟩⟩
    · clear H H2 hfm hdm nfm F8 N8 e0 q1 q2 q3 q4 q5 lt5
      rintro ⟨k, ti, tj, fm, vf, res, led9⟩ u h9 tk9 _ ⟨le9, TT9, H9, fo9, iv9⟩ F9 N9
      dsimp only [kstB] at F9 N9 le9 TT9 H9 fo9 iv9
      dsimp only
      have nr := offTab N TT hr (by exact Value.noConfusion)
      have hr9 := le9 _ hr nr.1 nr.2.1 nr.2.2
      obtain ⟨⟨fd1, d1, hpm1, hpd1, npm1⟩, S1⟩ := S.le le9
      tb_start
      · (rename Fr _ _ _ _ => F10)
        (rename News _ _ _ _ => N10)
        have hkc : k < col := by omega
        have hpl : k + e + 1 = k + 1 := by omega
        refine methOf N10 ⟨d1, hpm1, hpd1, npm1⟩ fnNoSearch ?_
        (try dsimp only)
        tb_start
        refine S1 _ _ _ _ _ _ _ led9 r vs n ns _ (k + e + 1) gk1 F10 N10 (LE.refl _) TT9 hr9 hi hlen rfl (by show dp + 1 + 3 < _; omega) (by show un + 3 + 100 < _; omega) (.inr ⟨_, rfl⟩) (by have := iv9.1; have := fo.2.1; omega) (by have := iv9.2.1; omega) ?_
        intro v h11 tk11 led11 F11 N11 le11 TT11 fo11
        (try dsimp only)
        rcases fo.2.2 (k + e + 1) (by have := iv9.1; have := fo.2.1; omega) with ⟨e0, hno⟩ | ⟨k2, e0, r1, r2, r3, r4, r5⟩
        · rw [e0] at fo11
          obtain rfl : v = .none := fo11
          tb_start
          dsimp only [KswPost]
          tb_start
          (rename Fr _ _ _ _ => F12)
          (rename News _ _ _ _ => N12)
          show LeaveK _ _ _ _ _ _ _
          exact leaveK_ F12 N12 fun F13 N13 => ret _ _ _ led11 (some (k, k + e)) F13 N13 (le9.trans le11) TT11 (iv9.last hkc fun k' a b c => hno k' a (by omega) c) ⟨fm, rfl, H9.le le11⟩
        · rw [e0] at fo11
          obtain ⟨fm2, rfl, Hm⟩ := fo11
          tb_start
          (rename Fr _ _ _ _ => F12)
          (rename News _ _ _ _ => N12)
          obtain ⟨⟨fdm, dm, hfm, hdm, nfm⟩, H2⟩ := id Hm
          refine truthy_fn (fnType N12 ⟨dm, hfm, hdm, nfm⟩) ?_
          (try dsimp only)
          tb_start
          refine methOf N12 ⟨dm, hfm, hdm, nfm⟩ fnNoSpan ?_
          (try dsimp only)
          tb_start
          refine H2 _ _ _ _ _ _ _ led11 gk1 F12 N12 (LE.refl _) (by show dp + 1 < _; omega) ?_
          intro pt ti2 tj2 h13 tk13 F13 N13 lt13
          (try dsimp only)
          tb_start
          (rename Fr _ _ _ _ => F14)
          (rename News _ _ _ _ => N14)
          dsimp only [KswPost]
          have hk2 : k + 1 ≤ k2 := by omega
          have hlow : ∀ k', lo ≤ k' → k + 1 ≤ k' → k' < k2 → pr k' = false := fun k' a b c => r5 k' a (by omega) c
          have iv2 := iv9.next hkc hk2 r3 r4 hlow
          refine ksw_end (σ := SrSt) ⟨k2, ti2, tj2, fm2, .ref fm, some (k, k + e), _⟩ F14 N14 (fun p hp => hp) trivial ?_ ?_ ?_ ?_
          · kst_all
          · ksw_same
          · exact ⟨(le9.trans le11).cons _, TT11.mono fun p hp => .tail _ hp, Hm.le ((LE.refl _).cons _), ⟨fm, rfl, H9.le (le11.cons _)⟩, iv2⟩
          · dsimp only
            have := iv9.2.1
            omega
      · (rename Fr _ _ _ _ => F10)
        (rename News _ _ _ _ => N10)
        have hkc : k < col := by omega
        have hpl : k + e = k + 1 := by omega
        refine methOf N10 ⟨d1, hpm1, hpd1, npm1⟩ fnNoSearch ?_
        (try dsimp only)
        tb_start
        refine S1 _ _ _ _ _ _ _ led9 r vs n ns _ (k + e) gk1 F10 N10 (LE.refl _) TT9 hr9 hi hlen rfl (by show dp + 1 + 3 < _; omega) (by show un + 3 + 100 < _; omega) (.inr ⟨_, rfl⟩) (by have := iv9.1; have := fo.2.1; omega) (by have := iv9.2.1; omega) ?_
        intro v h11 tk11 led11 F11 N11 le11 TT11 fo11
        (try dsimp only)
        rcases fo.2.2 (k + e) (by have := iv9.1; have := fo.2.1; omega) with ⟨e0, hno⟩ | ⟨k2, e0, r1, r2, r3, r4, r5⟩
        · rw [e0] at fo11
          obtain rfl : v = .none := fo11
          tb_start
          dsimp only [KswPost]
          tb_start
          (rename Fr _ _ _ _ => F12)
          (rename News _ _ _ _ => N12)
          show LeaveK _ _ _ _ _ _ _
          exact leaveK_ F12 N12 fun F13 N13 => ret _ _ _ led11 (some (k, k + e)) F13 N13 (le9.trans le11) TT11 (iv9.last hkc fun k' a b c => hno k' a (by omega) c) ⟨fm, rfl, H9.le le11⟩
        · rw [e0] at fo11
          obtain ⟨fm2, rfl, Hm⟩ := fo11
          tb_start
          (rename Fr _ _ _ _ => F12)
          (rename News _ _ _ _ => N12)
          obtain ⟨⟨fdm, dm, hfm, hdm, nfm⟩, H2⟩ := id Hm
          refine truthy_fn (fnType N12 ⟨dm, hfm, hdm, nfm⟩) ?_
          (try dsimp only)
          tb_start
          refine methOf N12 ⟨dm, hfm, hdm, nfm⟩ fnNoSpan ?_
          (try dsimp only)
          tb_start
          refine H2 _ _ _ _ _ _ _ led11 gk1 F12 N12 (LE.refl _) (by show dp + 1 < _; omega) ?_
          intro pt ti2 tj2 h13 tk13 F13 N13 lt13
          (try dsimp only)
          tb_start
          (rename Fr _ _ _ _ => F14)
          (rename News _ _ _ _ => N14)
          dsimp only [KswPost]
          have hk2 : k + 1 ≤ k2 := by omega
          have hlow : ∀ k', lo ≤ k' → k + 1 ≤ k' → k' < k2 → pr k' = false := fun k' a b c => r5 k' a (by omega) c
          have iv2 := iv9.next hkc hk2 r3 r4 hlow
          refine ksw_end (σ := SrSt) ⟨k2, ti2, tj2, fm2, .ref fm, some (k, k + e), _⟩ F14 N14 (fun p hp => hp) trivial ?_ ?_ ?_ ?_
          · kst_all
          · ksw_same
          · exact ⟨(le9.trans le11).cons _, TT11.mono fun p hp => .tail _ hp, Hm.le ((LE.refl _).cons _), ⟨fm, rfl, H9.le (le11.cons _)⟩, iv2⟩
          · dsimp only
            have := iv9.2.1
            omega
      · show LeaveK _ _ _ _ _ _ _
        exact leaveK_ F9 N9 fun F12 N12 => ret _ _ _ led9 res F12 N12 le9 TT9 (iv9.out (by omega)) fo9
end
end Mine
end PartL5
section PartX1
open PySem PySem.W PySem.Calls PySem.Spec PyProof.Rows
theorem Mine.calmX1 : True := by w_top off; k_with_none; trivial
set_option maxRecDepth 100000
namespace Mine
section
variable {prog : Program} {w : World} {A : Around} {E : Value → Shared → Prop} {s₁ : Shared} {h₀ : Heap} {L : Addr} {m : Str → Option Value} {news : List (Addr × Obj)}
/-- a list block over ints of which the test takes none -/
theorem srcC_none {env : Env} {elt : Expr} {x : Str} {ifs : List Expr} {scope : Scope} {Q : Value → Shared → Prop} {l : Addr} {vs : List Value} {as : List Int}
    (hh : A.handled = none) (hl : s₁.heap.IsList l vs.toArray) (hi : IntsAre vs as) (F : Fr h₀ L s₁.heap m) (N : News h₀ L s₁.heap news)
    (g1 : ∀ C a t s₂ m₂ E', s₂.heap.Ns (compEnv scope C env).locals m₂ → m₂ x = some (.int a t) → Keep h₀ s₂.heap →
        wpAny (model prog w) A (forIn ifs true fun c r => if r = true then do let ok ← isTrue c (compEnv scope C env) (eval c (compEnv scope C env)); pure (ForInStep.yield ok) else pure (ForInStep.yield r))
          (fun ok s₃ => ok = false ∧ Keeps s₂ s₃) E' s₂)
    (g3 : ∀ D n h' tk, Fr h₀ L h' m → News h₀ L h' ((D, listOf #[] n) :: news) → Q (.ref D) { s₁ with heap := h', toks := tk })
    (hsz : as.length ≤ sizeLine) :
    wpAny (model prog w) A (pyIter (.ref l)) (CompPost prog w A env scope x ifs elt Q) E s₁ := by
  have hlt : l < s₁.heap.objs.size := by obtain ⟨_, e, _⟩ := hl; exact Heap.lt_size e
  refine wpAny_pyIter_list hl ?_
  have up : ∀ (h' : Heap), (∀ b o', b ∉ [s₁.heap.objs.size] → (s₁.heap.push { cls := .type "list_iterator", data := .fields #[.ref l, .int 0 0] }).get? b = some o' → h'.get? b = some o') → ∀ b o', s₁.heap.get? b = some o' → h'.get? b = some o' :=
    fun h' hk b o' e => hk b o' (not_iter_of_old e) (Heap.get?_push_of_some _ e)
  have hia := hi.areOf
  refine ⟨fun _ => false, fun _ _ => False, s₁.heap.objs.size, [s₁.heap.objs.size, l], [s₁.heap.objs.size], vs.toArray.size, _, _, rfl, Walks.list hh _ l (Nat.ne_of_lt hlt) vs.toArray, (by rw [List.size_toArray, hia.length]; exact hsz),
    ⟨⟨_, Heap.get?_push_size _ rfl, rfl, rfl⟩, hl.at fun o e => Heap.get?_push_of_some _ e⟩, ?_, ⟨?_, ?_⟩, ?_⟩
  · intro b hb
    show b < (s₁.heap.push _).objs.size
    rw [Heap.size_push]
    rcases List.mem_cons.mp hb with rfl | hb
    · exact Nat.lt_succ_self _
    · rw [List.mem_singleton.mp hb]; exact Nat.lt_succ_of_lt hlt
  · intro C i v s₃ m₃ E' hP hn hm hk htk
    obtain ⟨a, _, ha⟩ := hia.get i v (by simpa using hP)
    obtain ⟨t, rfl⟩ := ItemKind.int_is ha
    exact g1 C a t s₃ m₃ E' hn hm fun b o e => up _ hk b o (F.keep b o e)
  · intro C i v s₃ m₃ E' hP hp
    cases hp
  · intro D h' tk ys vs' hnew hlD hplD hlen hP hF hk
    have hys : ys = #[] := by
      have : List.filter (fun _ : Value => false) vs' = [] := by simp
      rw [this] at hF
      cases hF' : ys.toList with
      | nil => simpa using congrArg List.toArray hF'
      | cons y r => rw [hF'] at hF; cases hF
    subst hys
    have F' := F.keeps (up h' hk)
    have N' := N.grown (up h' hk)
    have hD : h₀.get? D = none := by
      cases e : h₀.get? D with
      | none => rfl
      | some o' => rw [Heap.get?_push_of_some _ (F.keep _ _ e)] at hnew; cases hnew
    obtain ⟨n, N2⟩ := made_enters ⟨hplD, fun p hp e => by rw [← e, Heap.get?_push_of_some _ (N p hp).1] at hnew; cases hnew⟩ F' N' hD
    exact g3 D n h' tk F' N2
end
/-- a built-in's name, read in a block -/
theorem blockB {M : Model} {A : Around} {E : Value → Shared → Prop} {s : Shared} {K : Frag} {env : Env} {mean : ExcName → Option Value} {mg mb : Str → Option Value} {p : Program} {loose : List Str}
    {x : Str} {pos : Pos} {v : Value} {Q : Value → Shared → Prop} (X : K.In s.heap) (T : Top p loose mean mg mb s.heap) (e : nsIn K mainGlobals x = some none) (hv : bootBuiltins x = some v) (hn : x ≠ "__name__") (h : Q v s)
    (hg : env.globals = mainGlobals) (hb : env.builtins = builtinsNs) (hk : env.scope.kind = .function) (hx : env.kindOf x = some .globalImplicit) (hd : (x == ("__debug__" : Str)) = false) :
    wpAny M A (eval (.Name x pos) env) Q E s :=
  Name_function_global hk hx (loadGlobal_builtin (by rw [hg]; exact T.g) (mg_none_of X T.g e) (by rw [hb]; exact T.b) ((T.builtins x hn).trans hv) h) hd
/-- two sorted lists of the same things are one -/
theorem sorted_same : ∀ {l₁ l₂ : List Int}, l₁.Perm l₂ → l₁.Pairwise (fun x y => x ≤ y) → l₂.Pairwise (fun x y => x ≤ y) → l₁ = l₂
  | [], l₂, p, _, _ => by have := p.length_eq; cases l₂ <;> simp_all
  | a :: r, [], p, _, _ => by have := p.length_eq; simp at this
  | a :: r, b :: t, p, o₁, o₂ => by
    have ha : a ∈ b :: t := p.subset (List.mem_cons_self ..)
    have hb : b ∈ a :: r := p.symm.subset (List.mem_cons_self ..)
    have e : a = b := by
      rcases List.mem_cons.mp ha with h | h
      · exact h
      · rcases List.mem_cons.mp hb with h' | h'
        · exact h'.symm
        · exact Int.le_antisymm ((List.pairwise_cons.mp o₁).1 b h') ((List.pairwise_cons.mp o₂).1 a h)
    subst e
    rw [sorted_same ((List.perm_cons a).mp p) (List.pairwise_cons.mp o₁).2 (List.pairwise_cons.mp o₂).2]
end Mine
end PartX1
section PartLX
open PySem PySem.W PySem.Calls PySem.Spec PyProof.Rows
theorem Mine.calmLX : True := by w_top off; k_with_none; trivial
set_option maxRecDepth 100000
namespace Mine
/-- which of two rows of one length stands ahead, thing by thing -/
def lexB (back : Bool) : List Int → List Int → Bool
  | x :: xs, y :: ys => if x = y then lexB back xs ys else relB back x y
  | _, _ => false
theorem intsSize {vs : List Value} {ns : List Int} (h : IntsAre vs ns) : vs.length = ns.length := h.areOf.length
theorem intsAt {vs : List Value} {ns : List Int} (h : IntsAre vs ns) {i : Nat} {n : Int} (e : ns[i]? = some n) : ∃ t, vs.toArray[((i : Nat) : Int).toNat]? = some (.int n t) := by
  obtain ⟨t, q⟩ := h.get i n e
  exact ⟨t, by simpa using q⟩
section
open PySem.SeqAt PySem.MeetsSeq PySem.MeetsSeq2 PySem.MeetsSeq3
open AutoSeq1 (wpAny_loadPart')

theorem lexlt_loop (l b : Addr) {vs ws : List Value} {ns ms : List Int} (hv : IntsAre vs ns) (hw : IntsAre ws ms) (hlen : ns.length = ms.length) (n n2 : Nat) (k : Nat) :
    ∀ i : Nat, ns.length - i = k → Meets (Builtin.«list.__eq__.loop» ⟨[.ref l, .ref b, rawInt i, rawInt 0], []⟩)
      (fun _ R s => s.heap.get? l = some (listOf vs.toArray n) ∧ s.heap.get? b = some (listOf ws.toArray n2) ∧ R (.ok (.ret (.bool (lexB false (ns.drop i) (ms.drop i))))) s) := by
  have sv := intsSize hv
  have sw := intsSize hw
  induction k with
  | zero =>
    intro i hk prog w A R s h
    obtain ⟨hp, g, d, tk, os⟩ := s; obtain ⟨hl, hb, h⟩ := h
    wp_walk using wpAny_loadPart' hl, wpAny_loadPart' hb
    have hi1 : vs.toArray[((i : Nat) : Int).toNat]? = none := by simp; omega
    have hi2 : ws.toArray[((i : Nat) : Int).toNat]? = none := by simp; omega
    rw [List.drop_of_length_le (by omega), List.drop_of_length_le (by omega)] at h
    rw [hi1, hi2]
    wp_walk using wpAny_loadPart' hl, wpAny_loadPart' hb
    show R (.ok (.ret (.bool (decide (vs.toArray.size < ws.toArray.size))))) _
    have hno : decide (vs.toArray.size < ws.toArray.size) = false := by simp [sv, sw, hlen]
    rw [hno]
    exact h
  | succ k ih =>
    intro i hk prog w A R s h
    obtain ⟨hp, g, d, tk, os⟩ := s; obtain ⟨hl, hb, h⟩ := h
    wp_walk using wpAny_loadPart' hl, wpAny_loadPart' hb
    have hlt : i < ns.length := by omega
    have hlt2 : i < ms.length := by omega
    obtain ⟨t, hi1⟩ := intsAt hv (List.getElem?_eq_getElem hlt)
    obtain ⟨u, hi2⟩ := intsAt hw (List.getElem?_eq_getElem hlt2)
    have hc : ((i : Int) + 1) = ((i + 1 : Nat) : Int) := by push_cast; rfl
    rw [List.drop_eq_getElem_cons hlt, List.drop_eq_getElem_cons hlt2, lexB] at h
    rw [hi1, hi2]
    refine wpAny_bind (EqAt.int_int _ _ _ _ prog w _ _ ?_)
    by_cases e : ns[i] = ms[i]
    · rw [if_pos e] at h
      rw [show (ns[i] == ms[i]) = true from by simpa using e]
      wp_walk
      rw [hc]
      exact ⟨plainId_quiet plain_eq_loop _, codeAny_builtin entry_eq_loop (by
        rw [Around.under_plainId plain_eq_loop _]
        exact ih (i + 1) (by omega) prog w A R _ ⟨hl, hb, h⟩)⟩
    · rw [if_neg e] at h
      rw [show (ns[i] == ms[i]) = false from by simpa using e]
      wp_walk using wpAny_loadPart' hl, wpAny_loadPart' hb
      rw [hi1, hi2]
      refine wpAny_bind (PyProof.Rows.lt_int (E := _) ?_)
      wp_walk
      exact h

theorem lexlt_list (l b : Addr) {vs ws : List Value} {ns ms : List Int} (hv : IntsAre vs ns) (hw : IntsAre ws ms) (hlen : ns.length = ms.length) (n n2 : Nat) :
    Meets (Builtin.«list.__lt__» ⟨[.ref l, .ref b], []⟩)
      (fun _ R s => s.heap.get? l = some (listOf vs.toArray n) ∧ s.heap.get? b = some (listOf ws.toArray n2) ∧ R (.ok (.ret (.bool (lexB false ns ms)))) s) := by
  intro prog w A R s h
  obtain ⟨hp, g, d, tk, os⟩ := s; obtain ⟨hl, hb, h⟩ := h
  have f3 := AutoSeq1.sub_list_list
  wp_walk using wpAny_loadPart' hl, wpAny_loadPart' hb
  exact ⟨plainId_quiet plain_eq_loop _, codeAny_builtin entry_eq_loop (by
    rw [Around.under_plainId plain_eq_loop _]
    exact lexlt_loop l b hv hw hlen n n2 _ 0 rfl prog w A R _ ⟨hl, hb, by simpa using h⟩)⟩

theorem lexlt_lists {prog : Program} {w : World} {A : Around} {E : Value → Shared → Prop} {s : Shared} {Q : Value → Shared → Prop} {l b : Addr} {vs ws : List Value} {ns ms : List Int} {n n2 : Nat}
    (hl : s.heap.get? l = some (listOf vs.toArray n)) (hb : s.heap.get? b = some (listOf ws.toArray n2)) (hv : IntsAre vs ns) (hw : IntsAre ws ms) (hlen : ns.length = ms.length) (hu : A.units < cLine)
    (h : Q (.bool (lexB false ns ms)) s) : wpAny (model prog w) A (compareOp .Lt (.ref l) (.ref b)) Q E s :=
  richCompare_meets_room (op := .Lt) ⟨_, hl, rfl⟩ ⟨_, hb, rfl⟩ F.slot_list_lt F.entry_list_lt (F.args_list_lt_2 _ _) (lexlt_list l b hv hw hlen n n2)
    ⟨hl, hb, show Value.bool (lexB false ns ms) ≠ Value.notImplemented ∧ Q (.bool (lexB false ns ms)) s from ⟨(fun x => nomatch x), h⟩⟩ hu

theorem lexgt_loop (l b : Addr) {vs ws : List Value} {ns ms : List Int} (hv : IntsAre vs ns) (hw : IntsAre ws ms) (hlen : ns.length = ms.length) (n n2 : Nat) (k : Nat) :
    ∀ i : Nat, ns.length - i = k → Meets (Builtin.«list.__eq__.loop» ⟨[.ref l, .ref b, rawInt i, rawInt 4], []⟩)
      (fun _ R s => s.heap.get? l = some (listOf vs.toArray n) ∧ s.heap.get? b = some (listOf ws.toArray n2) ∧ R (.ok (.ret (.bool (lexB true (ns.drop i) (ms.drop i))))) s) := by
  have sv := intsSize hv
  have sw := intsSize hw
  induction k with
  | zero =>
    intro i hk prog w A R s h
    obtain ⟨hp, g, d, tk, os⟩ := s; obtain ⟨hl, hb, h⟩ := h
    wp_walk using wpAny_loadPart' hl, wpAny_loadPart' hb
    have hi1 : vs.toArray[((i : Nat) : Int).toNat]? = none := by simp; omega
    have hi2 : ws.toArray[((i : Nat) : Int).toNat]? = none := by simp; omega
    rw [List.drop_of_length_le (by omega), List.drop_of_length_le (by omega)] at h
    rw [hi1, hi2]
    wp_walk using wpAny_loadPart' hl, wpAny_loadPart' hb
    show R (.ok (.ret (.bool (decide (ws.toArray.size < vs.toArray.size))))) _
    have hno : decide (ws.toArray.size < vs.toArray.size) = false := by simp [sv, sw, hlen]
    rw [hno]
    exact h
  | succ k ih =>
    intro i hk prog w A R s h
    obtain ⟨hp, g, d, tk, os⟩ := s; obtain ⟨hl, hb, h⟩ := h
    wp_walk using wpAny_loadPart' hl, wpAny_loadPart' hb
    have hlt : i < ns.length := by omega
    have hlt2 : i < ms.length := by omega
    obtain ⟨t, hi1⟩ := intsAt hv (List.getElem?_eq_getElem hlt)
    obtain ⟨u, hi2⟩ := intsAt hw (List.getElem?_eq_getElem hlt2)
    have hc : ((i : Int) + 1) = ((i + 1 : Nat) : Int) := by push_cast; rfl
    rw [List.drop_eq_getElem_cons hlt, List.drop_eq_getElem_cons hlt2, lexB] at h
    rw [hi1, hi2]
    refine wpAny_bind (EqAt.int_int _ _ _ _ prog w _ _ ?_)
    by_cases e : ns[i] = ms[i]
    · rw [if_pos e] at h
      rw [show (ns[i] == ms[i]) = true from by simpa using e]
      wp_walk
      rw [hc]
      exact ⟨plainId_quiet plain_eq_loop _, codeAny_builtin entry_eq_loop (by
        rw [Around.under_plainId plain_eq_loop _]
        exact ih (i + 1) (by omega) prog w A R _ ⟨hl, hb, h⟩)⟩
    · rw [if_neg e] at h
      rw [show (ns[i] == ms[i]) = false from by simpa using e]
      wp_walk using wpAny_loadPart' hl, wpAny_loadPart' hb
      rw [hi1, hi2]
      refine wpAny_bind (PyProof.Rows.gt_int (E := _) ?_)
      wp_walk
      exact h

theorem lexgt_list (l b : Addr) {vs ws : List Value} {ns ms : List Int} (hv : IntsAre vs ns) (hw : IntsAre ws ms) (hlen : ns.length = ms.length) (n n2 : Nat) :
    Meets (Builtin.«list.__gt__» ⟨[.ref l, .ref b], []⟩)
      (fun _ R s => s.heap.get? l = some (listOf vs.toArray n) ∧ s.heap.get? b = some (listOf ws.toArray n2) ∧ R (.ok (.ret (.bool (lexB true ns ms)))) s) := by
  intro prog w A R s h
  obtain ⟨hp, g, d, tk, os⟩ := s; obtain ⟨hl, hb, h⟩ := h
  have f3 := AutoSeq1.sub_list_list
  wp_walk using wpAny_loadPart' hl, wpAny_loadPart' hb
  exact ⟨plainId_quiet plain_eq_loop _, codeAny_builtin entry_eq_loop (by
    rw [Around.under_plainId plain_eq_loop _]
    exact lexgt_loop l b hv hw hlen n n2 _ 0 rfl prog w A R _ ⟨hl, hb, by simpa using h⟩)⟩

theorem lexgt_lists {prog : Program} {w : World} {A : Around} {E : Value → Shared → Prop} {s : Shared} {Q : Value → Shared → Prop} {l b : Addr} {vs ws : List Value} {ns ms : List Int} {n n2 : Nat}
    (hl : s.heap.get? l = some (listOf vs.toArray n)) (hb : s.heap.get? b = some (listOf ws.toArray n2)) (hv : IntsAre vs ns) (hw : IntsAre ws ms) (hlen : ns.length = ms.length) (hu : A.units < cLine)
    (h : Q (.bool (lexB true ns ms)) s) : wpAny (model prog w) A (compareOp .Gt (.ref l) (.ref b)) Q E s :=
  richCompare_meets_room (op := .Gt) ⟨_, hl, rfl⟩ ⟨_, hb, rfl⟩ F.slot_list_gt F.entry_list_gt (F.args_list_gt_2 _ _) (lexgt_list l b hv hw hlen n n2)
    ⟨hl, hb, show Value.bool (lexB true ns ms) ≠ Value.notImplemented ∧ Q (.bool (lexB true ns ms)) s from ⟨(fun x => nomatch x), h⟩⟩ hu
end
end Mine
end PartLX
section PartLY
open PySem PySem.W PySem.Calls PySem.Spec PyProof.Rows
theorem Mine.calmLY : True := by w_top off; k_with_none; trivial
set_option maxRecDepth 100000
namespace Mine
theorem fillK8 (w : World) (g : Heap) (X : (hd0.heap_39 w.params).In g) : (hd0.heap_39 w.params).In g ∧ PySem.Challenge.rw_pe0030_01 = PySem.Challenge.rw_pe0030_01 := by
  k_fill
  exact ⟨X, rfl⟩
local macro_rules | `(tactic| k_mem) => `(tactic| first | with_reducible exact List.Mem.head _ | with_reducible assumption | (with_reducible exact List.mem_append_left _ (by with_reducible assumption)) | ((with_reducible refine List.mem_cons_of_mem _ ?_); k_mem))
local macro_rules | `(tactic| kmk_nums) => `(tactic| first | ((with_reducible refine' kmk_from ?gi ?gx); (case gi => l_ints); (case gx => omega)) | ((with_reducible refine' kmk_upto ?gi ?gx); (case gi => l_ints); (case gx => omega)))
local macro_rules | `(tactic| tb_start) => `(tactic| repeat' (first | ((fail_if_success (with_reducible show wpAny _ _ (pyIter _) (fun it s₂ => LoopAtV _ _ _ _ _ _ _ _ _ it s₂) _ _)); (fail_if_success (with_reducible show wpAny _ _ (exec (Stmt.While _ _ _ _) _) _ _ _)); (fail_if_success (with_reducible show KswPost _ _ _ _ _ _ _ _ _ _ _ _ _ _)); (fail_if_success (with_reducible show InvPostN _ _ _ _ _ _ _ _ _)); (fail_if_success (with_reducible show InvEndN _ _ _ _ _ _ _)); (first | (k_unfold; (try dsimp only)) | (k_end; wrow_close) | walk1 | (dsimp only; walk1) | (leave1; walk_say "STEP leave1"; try dsimp only))) | fail "no step"))

section
variable {w : World} {g : Heap} {A : Around} {E : Value → Shared → Prop} {s : Shared} {Q : Value → Shared → Prop} {h₀ : Heap} {L : Addr} {m : Str → Option Value} {led : List (Addr × Obj)}

set_option maxHeartbeats 4000000 in
theorem ltL_ct {l b : Addr} {vs ws : List Value} {ns ms : List Int} {n n2 : Nat} (B : Bs w g) (kg : Keep g s.heap) (hh : A.handled = none) (hd : A.depth < recursionLimit) (hu : A.units + 100 < cLine)
    (hl : s.heap.get? l = some (listOf vs.toArray n)) (hb : s.heap.get? b = some (listOf ws.toArray n2)) (hv : IntsAre vs ns) (hw : IntsAre ws ms) (hlen : ns.length = ms.length)
    (ret : ∀ h' tk, Keep s.heap h' → Q (.bool (lexB false ns ms)) { s with heap := h', toks := tk }) : wpAny (model PySem.Challenge.rw_pe0030_01.row.prog w) A (call (.ref 28) [.ref l, .ref b]) Q E s := by
  obtain ⟨ha, dp, fr, gd, un⟩ := A
  obtain rfl : ha = none := hh
  dsimp only at hd hu
  refine wpAny_call ?_
  refine' enterP (binds := [(Str.ofString "a", .ref l), (Str.ofString "b", .ref b)]) B kg ?e3 ?e4 ?e5 ?e6 ?e7 ?_ ?c1 ?c2 ?c3 ?c4
  case e3 => k_is
  case e4 => k_is
  case e6 => exact BindsTo.of_eq rfl
  case e7 => exact locs rfl
  case c1 => rfl
  case c2 => rfl
  case c3 => rfl
  case c4 => decide
  case e5 => first | omega | (show dp < _; omega) | (show A.depth < _; omega)
  intro L' h₁ loose mean mg mb F N X T
  have k1 := F.keep _ _ hl
  have k2 := F.keep _ _ hb
  tb_start
  refine lexlt_lists k1 k2 hv hw hlen (by first | (dsimp only [Around.deeper]; omega) | (show un < _; omega) | (show un + 1 < _; omega)) ?_
  tb_start
  all_goals exact ret _ _ F.keep
theorem ltL_K {l b : Addr} {vs ws : List Value} {ns ms : List Int} {n n2 : Nat} (B : Bs w g) (gk : Keep g h₀) (F : Fr h₀ L s.heap m) (N : News h₀ L s.heap led) (hh : A.handled = none) (hd : A.depth < recursionLimit) (hu : A.units + 100 < cLine)
    (hl : (l, listOf vs.toArray n) ∈ led) (hb : (b, listOf ws.toArray n2) ∈ led) (hv : IntsAre vs ns) (hw : IntsAre ws ms) (hlen : ns.length = ms.length)
    (ret : ∀ h' tk, Fr h₀ L h' m → News h₀ L h' led → Q (.bool (lexB false ns ms)) { s with heap := h', toks := tk }) : wpAny (model PySem.Challenge.rw_pe0030_01.row.prog w) A (call (.ref 28) [.ref l, .ref b]) Q E s :=
  ltL_ct B (gk.trans F.keep) hh hd hu (N _ hl).1 (N _ hb).1 hv hw hlen fun h' tk kp => ret h' tk (kp.fr F) (kp.news N)

set_option maxHeartbeats 4000000 in
theorem gtL_ct {l b : Addr} {vs ws : List Value} {ns ms : List Int} {n n2 : Nat} (B : Bs w g) (kg : Keep g s.heap) (hh : A.handled = none) (hd : A.depth < recursionLimit) (hu : A.units + 100 < cLine)
    (hl : s.heap.get? l = some (listOf vs.toArray n)) (hb : s.heap.get? b = some (listOf ws.toArray n2)) (hv : IntsAre vs ns) (hw : IntsAre ws ms) (hlen : ns.length = ms.length)
    (ret : ∀ h' tk, Keep s.heap h' → Q (.bool (lexB true ns ms)) { s with heap := h', toks := tk }) : wpAny (model PySem.Challenge.rw_pe0030_01.row.prog w) A (call (.ref 35) [.ref l, .ref b]) Q E s := by
  obtain ⟨ha, dp, fr, gd, un⟩ := A
  obtain rfl : ha = none := hh
  dsimp only at hd hu
  refine wpAny_call ?_
  refine' enterP (binds := [(Str.ofString "a", .ref l), (Str.ofString "b", .ref b)]) B kg ?e3 ?e4 ?e5 ?e6 ?e7 ?_ ?c1 ?c2 ?c3 ?c4
  case e3 => k_is
  case e4 => k_is
  case e6 => exact BindsTo.of_eq rfl
  case e7 => exact locs rfl
  case c1 => rfl
  case c2 => rfl
  case c3 => rfl
  case c4 => decide
  case e5 => first | omega | (show dp < _; omega) | (show A.depth < _; omega)
  intro L' h₁ loose mean mg mb F N X T
  have k1 := F.keep _ _ hl
  have k2 := F.keep _ _ hb
  tb_start
  refine lexgt_lists k1 k2 hv hw hlen (by first | (dsimp only [Around.deeper]; omega) | (show un < _; omega) | (show un + 1 < _; omega)) ?_
  tb_start
  all_goals exact ret _ _ F.keep
theorem gtL_K {l b : Addr} {vs ws : List Value} {ns ms : List Int} {n n2 : Nat} (B : Bs w g) (gk : Keep g h₀) (F : Fr h₀ L s.heap m) (N : News h₀ L s.heap led) (hh : A.handled = none) (hd : A.depth < recursionLimit) (hu : A.units + 100 < cLine)
    (hl : (l, listOf vs.toArray n) ∈ led) (hb : (b, listOf ws.toArray n2) ∈ led) (hv : IntsAre vs ns) (hw : IntsAre ws ms) (hlen : ns.length = ms.length)
    (ret : ∀ h' tk, Fr h₀ L h' m → News h₀ L h' led → Q (.bool (lexB true ns ms)) { s with heap := h', toks := tk }) : wpAny (model PySem.Challenge.rw_pe0030_01.row.prog w) A (call (.ref 35) [.ref l, .ref b]) Q E s :=
  gtL_ct B (gk.trans F.keep) hh hd hu (N _ hl).1 (N _ hb).1 hv hw hlen fun h' tk kp => ret h' tk (kp.fr F) (kp.news N)

theorem number_K {l : Addr} {vs : List Value} {n : Nat} {ns : List Int} (B : Bs w g) (gk : Keep g h₀) (F : Fr h₀ L s.heap m) (N : News h₀ L s.heap led) (hh : A.handled = none) (hd : A.depth + 1 < recursionLimit) (hu : A.units + 200 < cLine)
    (hm : (l, listOf vs.toArray n) ∈ led) (hi : IntsAre vs ns) (hlen : ns.length ≤ 5)
    (ret : ∀ t' h' tk, Fr h₀ L h' m → News h₀ L h' led → Q (.int (numUp ns ns.length) t') { s with heap := h', toks := tk }) : wpAny (model PySem.Challenge.rw_pe0030_01.row.prog w) A (call (.ref 91) [.ref l]) Q E s :=
  number_ct B (gk.trans F.keep) hh hd hu ⟨_, (N _ hm).1, rfl, n, rfl⟩ hi hlen fun t' h' tk kp => ret t' h' tk (kp.fr F) (kp.news N)
end
end Mine
end PartLY
section PartK1
open PySem PySem.W PySem.Calls PySem.Spec PyProof.Rows
theorem Mine.calmK1 : True := by w_top off; k_with_none; trivial
set_option maxRecDepth 100000
namespace Mine
theorem fillK9 (w : World) (g : Heap) (X : (hd0.heap_39 w.params).In g) : (hd0.heap_39 w.params).In g ∧ PySem.Challenge.rw_pe0030_01 = PySem.Challenge.rw_pe0030_01 := by
  k_fill
  exact ⟨X, rfl⟩
local macro_rules | `(tactic| k_mem) => `(tactic| first | with_reducible exact List.Mem.head _ | with_reducible assumption | (with_reducible exact List.mem_append_left _ (by with_reducible assumption)) | ((with_reducible refine List.mem_cons_of_mem _ ?_); k_mem))
local macro_rules | `(tactic| kmk_nums) => `(tactic| first | ((with_reducible refine' kmk_from ?gi ?gx); (case gi => l_ints); (case gx => omega)) | ((with_reducible refine' kmk_upto ?gi ?gx); (case gi => l_ints); (case gx => omega)))
local macro_rules | `(tactic| tb_start) => `(tactic| repeat' (first | ((fail_if_success (with_reducible show wpAny _ _ (pyIter _) (fun it s₂ => LoopAtV _ _ _ _ _ _ _ _ _ it s₂) _ _)); (fail_if_success (with_reducible show wpAny _ _ (exec (Stmt.While _ _ _ _) _) _ _ _)); (fail_if_success (with_reducible show KswPost _ _ _ _ _ _ _ _ _ _ _ _ _ _)); (fail_if_success (with_reducible show InvPostN _ _ _ _ _ _ _ _ _)); (fail_if_success (with_reducible show InvEndN _ _ _ _ _ _ _)); (first | (k_unfold; (try dsimp only)) | (k_end; wrow_close) | walk1 | (dsimp only; walk1) | (leave1; walk_say "STEP leave1"; try dsimp only))) | fail "no step"))

/-- the law's loop: its body, and the law's scope -/
def lawOf : List Stmt × Scope := match (PySem.Challenge.pw_pe0030_01.main.body.drop 14 : List Stmt) with
  | .FunctionDef _ _ [_, _, _, .For _ _ b _ _, _] _ _ _ sc _ _ _ :: _ => (b, sc)
  | _ => ([], ⟨.function, [], false, false, []⟩)
def lawBody : List Stmt := lawOf.1
def lawChecks : List Stmt := lawOf.1.drop 9
def lawTail : List Stmt := lawOf.1.drop 7
def lawScope : Scope := lawOf.2
/-- what the law asks of a row behind a deed -/
structure DeedIs (bk : Bool) (ns ns2 : List Int) (col : Int) (tl : Bool) : Prop where
  same : List.Perm (ns2.take col.toNat) (ns.take col.toNat)
  rest : ns2.drop col.toNat = ns.drop col.toNat
  num : numUp (ns2.take col.toNat) (ns2.take col.toNat).length = Int.fmod (numUp (ns.take col.toNat) (ns.take col.toNat).length + (if bk then -1 else 1)) (waysUp (ns.take col.toNat) (ns.take col.toNat).length)
  some : 0 < waysUp (ns.take col.toNat) (ns.take col.toNat).length
  told : lexB bk ns ns2 = tl
theorem canonFr {h₀ h : Heap} {L : Addr} {m : Str → Option Value} (F : Fr h₀ L h m) (ps : List (Str × Value)) (hp : ∀ p ∈ ps, m p.1 = some p.2) : Fr h₀ L h (kstB m ps) := by
  have e : kstB m ps = m := funext fun y => kstB_eq hp fun _ => rfl
  rw [e]
  exact F

section
variable {w : World} {g : Heap} {A : Around} {s : Shared} {Q : Flow → Shared → Prop} {h₀ : Heap} {L a : Addr} {cd : Value} {m : Str → Option Value} {led : List (Addr × Obj)}
set_option maxHeartbeats 8000000 in
theorem checks_lc {r D : Addr} {vs vs2 : List Value} {n cD : Nat} {ns ns2 : List Int} {col : Int} {tc : Tok} {bk : Bool} {vt : Value} {b : Addr} {tl : Bool} (B : Bs w g) (gk : Keep g h₀)
    (F : Fr h₀ L s.heap m) (mcol : m (Str.ofString "col") = some (.int col tc)) (mback : m (Str.ofString "back") = some (.bool bk)) (mbef : m (Str.ofString "before") = some (.ref b)) (mheld : m (Str.ofString "held") = some (.ref D))
    (mtold : m (Str.ofString "told") = some vt) (mrow : m (Str.ofString "row") = some (.ref r)) (N : News h₀ L s.heap led)
    (hr : (r, listOf vs2.toArray n) ∈ led) (hi2 : IntsAre vs2 ns2) (hlen2 : ns2.length = 5) (hD : (D, listOf vs.toArray cD) ∈ led) (hi : IntsAre vs ns) (hlen : ns.length = 5) (hc0 : 0 ≤ col) (hc5 : col ≤ 5)
    (hh : A.handled = none) (hd : A.depth + 20 < recursionLimit) (hu : A.units + 400 < cLine)
    (hb : (bk = false ∧ b = 28) ∨ (bk = true ∧ b = 35)) (hvt : (vt = .none ∧ tl = false) ∨ (∃ f, vt = .ref f ∧ tl = true))
    (DD : DeedIs bk ns ns2 col tl)
    (ret : ∀ h' tk m' led', Fr h₀ L h' m' → m' (Str.ofString "row") = some (.ref r) → News h₀ L h' led' → (∀ p ∈ led, p ∈ led') → Q .next { s with heap := h', toks := tk }) :
    wpAny (model PySem.Challenge.rw_pe0030_01.row.prog w) A (execs lawChecks (envOf (Str.ofString "law") lawScope L a cd)) Q (fun _ _ => False) s := by
  obtain ⟨ha, dp, fr, gd, un⟩ := A
  obtain rfl : ha = none := hh
  dsimp only at hd hu
  have P1a := DD.same
  have P1b := DD.rest
  have P2 := DD.num
  have P2w := DD.some
  have P3 := DD.told
  obtain ⟨loose, mean, mg, mb, T0⟩ := B.T
  have T := T0.keeps gk
  have X := B.X.keeps gk
  have F1 := canonFr F [(Str.ofString "col", .int col tc), (Str.ofString "back", .bool bk), (Str.ofString "before", .ref b), (Str.ofString "held", .ref D), (Str.ofString "told", vt), (Str.ofString "row", .ref r)] (by
    simp only [List.forall_mem_cons, List.not_mem_nil, false_implies, implies_true, and_true]
    exact ⟨mcol, mback, mbef, mheld, mtold, mrow⟩)
  dsimp only [kstB] at F1
  clear F mcol mback mbef mheld mtold mrow
  generalize hS : lawScope = S
  conv at hS => lhs; whnf
  subst hS
  generalize hB : lawChecks = LB
  conv at hB => lhs; whnf
  subst hB
  tb_start
  · (rename Fr _ _ _ _ => F2)
    (rename News _ _ _ _ => N9)
    have N2 : News h₀ L _ led := fun p hp => N9 p (by repeat (first | exact hp | apply List.mem_cons_of_mem))
    have hl0 := News.isList N2 hr
    clear N9
    refine srcC_none rfl hl0 hi2 F2 N2 ?g1 ?g3 (by rw [hlen2]; decide)
    case g1 =>
      intro C a0 t0 s₂ m₂ E' hn hm hk
      have X2 := X.keeps hk
      have T2 := T.keeps hk
      clear F2 N2 X T T0 P1a P1b ret hl0
      repeat (first | walk1 | (dsimp only; walk1))
      refine blockB X2 T2 (by k_is) (by first | boot_fast | reg3_boot) (by decide) ?_ rfl rfl rfl rfl (by decide)
      repeat (first | walk1 | (dsimp only; walk1))
      refine blockB X2 T2 (by k_is) (by first | boot_fast | reg3_boot) (by decide) ?_ rfl rfl rfl rfl (by decide)
      repeat (first | walk1 | (dsimp only; walk1))
      refine blockB X2 T2 (by k_is) (by first | boot_fast | reg3_boot) (by decide) ?_ rfl rfl rfl rfl (by decide)
      repeat (first | walk1 | (dsimp only; walk1))
      refine blockB X2 T2 (by k_is) (by first | boot_fast | reg3_boot) (by decide) ?_ rfl rfl rfl rfl (by decide)
      repeat (first | walk1 | (dsimp only; walk1))
      exact ⟨_, _, rfl, fun _ _ q => q⟩
    case g3 =>
      intro D2 n2 h2 tk2 F3 N3
      clear F2 N2 hl0
      tb_start
      (rename Fr _ _ _ _ => F4)
      (rename News _ _ _ _ => N4)
      refine number_K B gk F4 N4 rfl (by dsimp only; omega) (by dsimp only; omega) (by k_mem) (by assumption) (by rw [List.length_take]; omega) ?_
      intro t1 h3 tk3 F5 N5
      clear F4 N4
      obtain ⟨rfl, rfl⟩ | ⟨rfl, rfl⟩ := hb
      · tb_start
        (rename Fr _ _ _ _ => F4)
        (rename News _ _ _ _ => N4)
        refine number_K B gk F4 N4 rfl (by dsimp only; omega) (by dsimp only; omega) (by k_mem) (by assumption) (by rw [List.length_take]; omega) ?_
        intro t2 h4 tk4 F6 N6
        clear F4 N4
        tb_start
        (rename Fr _ _ _ _ => F7)
        (rename News _ _ _ _ => N7)
        refine ways_K B gk F7 N7 rfl (by dsimp only; omega) (by dsimp only; omega) (by k_mem) (by assumption) (by rw [List.length_take]; omega) ?_
        intro t3 h5 tk5 F8 N8
        clear F7 N7
        tb_start
        · exfalso
          (rename _ ≠ _ => hne)
          exact hne P2
        refine ltL_K B gk F8 N8 rfl (by dsimp only; omega) (by dsimp only; omega) (by k_mem) (by k_mem) hi hi2 (by omega) ?_
        intro h6 tk6 F9 N9
        clear F8 N8
        rw [P3]
        obtain ⟨rfl, rfl⟩ | ⟨f, rfl, rfl⟩ := hvt
        · tb_start
          all_goals exact ret _ _ _ _ F9 rfl N9 (fun p hp => by repeat (first | exact hp | apply List.mem_cons_of_mem))
        · tb_start
          all_goals exact ret _ _ _ _ F9 rfl N9 (fun p hp => by repeat (first | exact hp | apply List.mem_cons_of_mem))
      · tb_start
        (rename Fr _ _ _ _ => F4)
        (rename News _ _ _ _ => N4)
        refine number_K B gk F4 N4 rfl (by dsimp only; omega) (by dsimp only; omega) (by k_mem) (by assumption) (by rw [List.length_take]; omega) ?_
        intro t2 h4 tk4 F6 N6
        clear F4 N4
        tb_start
        (rename Fr _ _ _ _ => F7)
        (rename News _ _ _ _ => N7)
        refine ways_K B gk F7 N7 rfl (by dsimp only; omega) (by dsimp only; omega) (by k_mem) (by assumption) (by rw [List.length_take]; omega) ?_
        intro t3 h5 tk5 F8 N8
        clear F7 N7
        tb_start
        · exfalso
          (rename _ ≠ _ => hne)
          exact hne P2
        refine gtL_K B gk F8 N8 rfl (by dsimp only; omega) (by dsimp only; omega) (by k_mem) (by k_mem) hi hi2 (by omega) ?_
        intro h6 tk6 F9 N9
        clear F8 N8
        rw [P3]
        obtain ⟨rfl, rfl⟩ | ⟨f, rfl, rfl⟩ := hvt
        · tb_start
          all_goals exact ret _ _ _ _ F9 rfl N9 (fun p hp => by repeat (first | exact hp | apply List.mem_cons_of_mem))
        · tb_start
          all_goals exact ret _ _ _ _ F9 rfl N9 (fun p hp => by repeat (first | exact hp | apply List.mem_cons_of_mem))
  · exfalso
    (rename ¬ _ = _ => hne)
    exact hne (sorted_same (List.Perm.trans (l₂ := ns2.take col.toNat) (by assumption) (List.Perm.trans (l₂ := ns.take col.toNat) P1a (List.Perm.symm (by assumption)))) (by assumption) (by assumption))
end
end Mine
end PartK1
section PartXL
open PySem PySem.W PySem.Calls PySem.Spec PyProof.Rows
theorem Mine.calmXL : True := by w_top off; k_with_none; trivial
set_option maxRecDepth 100000
namespace Mine
/-- the tables stay when a row changes -/
theorem TL.setRow {h₀ h : Heap} {L : Addr} {led : List (Addr × Obj)} {P r : Addr} {pos : Pos} {q : Str} {o : Obj} {xs : Array Value} {n : Nat} (x : TL led P pos q) (N : News h₀ L h led) (hr : (r, listOf xs n) ∈ led) (hP : P ≠ r) : TL (setL led r o) P pos q := by
  obtain ⟨ps, a, b, c | ⟨c, oc, vs, t, e, hm, r1, r2⟩⟩ := x
  · exact ⟨ps, setL_mem a hP, b, .inl c⟩
  · refine ⟨ps, setL_mem a hP, b, .inr ⟨c, oc, vs, t, e, setL_mem hm ?_, r1, r2⟩⟩
    dsimp only
    rintro rfl
    have e1 := (N _ hm).1
    have e2 := (N _ hr).1
    rw [e1] at e2
    cases e2
    cases r1
theorem TLs.setRow {h₀ h : Heap} {L : Addr} {led : List (Addr × Obj)} {r : Addr} {o : Obj} {xs : Array Value} {n : Nat} (x : TLs led) (N : News h₀ L h led) (hr : (r, listOf xs n) ∈ led) : TLs (setL led r o) := by
  have nr := offTab N x hr (by exact Value.noConfusion)
  exact ⟨x.t65.setRow N hr nr.1.symm, x.t51.setRow N hr nr.2.1.symm, x.t58.setRow N hr nr.2.2.symm⟩
/-- all but r stay -/
def LR (r : Addr) (led led' : List (Addr × Obj)) : Prop := ∀ p ∈ led, p.1 ≠ r → p ∈ led'
section
variable {w : World} {g : Heap} {A : Around} {E : Value → Shared → Prop} {s : Shared} {Q : Value → Shared → Prop} {h₀ : Heap} {L : Addr} {m : Str → Option Value} {led : List (Addr × Obj)}
theorem exchange_L {r : Addr} {vs : List Value} {n : Nat} {ns : List Int} {i j : Int} {t u : Tok} (B : Bs w g) (gk : Keep g h₀) (F : Fr h₀ L s.heap m) (N : News h₀ L s.heap led) (hd : A.depth + 1 < recursionLimit)
    (hr : (r, listOf vs.toArray n) ∈ led) (hi : IntsAre vs ns) (h0 : 0 ≤ i) (hk : i < ns.length) (h0' : 0 ≤ j) (hk' : j < ns.length) (hb : ns.length < 2 ^ 20)
    (ret : ∀ vs' n' h' tk, IntsAre vs' (swapAt ns i.toNat j.toNat) → Fr h₀ L h' m → News h₀ L h' (setL led r (listOf (List.toArray vs') n')) → Q .none { s with heap := h', toks := tk }) :
    wpAny (model PySem.Challenge.rw_pe0030_01.row.prog w) A (call (.ref 77) [.ref r, .int i t, .int j u]) Q E s := by
  have hn := N _ hr
  refine exchange_ct B (gk.trans F.keep) hd ⟨vs, n, hn.1, hi⟩ ?_ h0 hk h0' hk' hb ?_
  · cases q : g.get? r with
    | none => rfl
    | some o => have := gk _ _ q; have h2 := hn.2.2; dsimp only at h2; rw [h2] at this; cases this
  · intro h' tk kb ⟨vs', n', e', i'⟩
    refine ret vs' n' h' tk i' ⟨?_, fun b o eb => kb b o ?_ (F.keep b o eb), F.above⟩ ?_
    · obtain ⟨o, es, ep, e'', r'⟩ := F.ns
      exact ⟨o, es, ep, kb _ _ (Ne.symm hn.2.1) e'', r'⟩
    · rintro rfl; have h2 := hn.2.2; dsimp only at h2; rw [h2] at eb; cases eb
    · intro q hq
      rcases mem_setL hq with ⟨rfl, _⟩ | ⟨hq, nq⟩
      · exact ⟨e', hn.2⟩
      · exact ⟨kb _ _ nq (N _ hq).1, (N _ hq).2⟩
end
/-- a row turned round from lo to hi -/
def revN : Nat → Int → Int → List Int → List Int
  | 0, _, _, ns => ns
  | f + 1, lo, hi, ns => if lo < hi then revN f (lo + 1) (hi - 1) (swapAt ns lo.toNat hi.toNat) else ns
theorem revN_done {f : Nat} {lo hi : Int} {ns : List Int} (h : ¬ lo < hi) : revN f lo hi ns = ns := by
  cases f with
  | zero => rfl
  | succ f => rw [revN, if_neg h]
theorem swapAt_length (ns : List Int) (i j : Nat) : (swapAt ns i j).length = ns.length := by simp [swapAt]
theorem revN_step {f : Nat} {lo hi : Int} {ns : List Int} (h : lo < hi) (b : hi - lo < 2 * f) : revN f lo hi ns = revN (f - 1) (lo + 1) (hi - 1) (swapAt ns lo.toNat hi.toNat) := by
  cases f with
  | zero => omega
  | succ f => rw [revN, if_pos h]; rfl
end Mine
end PartXL
section PartTA
open PySem PySem.W PySem.Calls PySem.Spec PyProof.Rows
theorem Mine.calmTA : True := by w_top off; k_with_none; trivial
set_option maxRecDepth 100000
namespace Mine
theorem fillK10 (w : World) (g : Heap) (X : (hd0.heap_39 w.params).In g) : (hd0.heap_39 w.params).In g ∧ PySem.Challenge.rw_pe0030_01 = PySem.Challenge.rw_pe0030_01 := by
  k_fill
  exact ⟨X, rfl⟩
local macro_rules | `(tactic| k_mem) => `(tactic| first | with_reducible exact List.Mem.head _ | with_reducible assumption | (with_reducible exact List.mem_append_left _ (by with_reducible assumption)) | ((with_reducible refine List.mem_cons_of_mem _ ?_); k_mem))
local macro_rules | `(tactic| kmk_nums) => `(tactic| first | ((with_reducible refine' kmk_from ?gi ?gx); (case gi => l_ints); (case gx => omega)) | ((with_reducible refine' kmk_upto ?gi ?gx); (case gi => l_ints); (case gx => omega)))
local macro_rules | `(tactic| tb_start) => `(tactic| repeat' (first | ((fail_if_success (with_reducible show wpAny _ _ (pyIter _) (fun it s₂ => LoopAtV _ _ _ _ _ _ _ _ _ it s₂) _ _)); (fail_if_success (with_reducible show wpAny _ _ (exec (Stmt.While _ _ _ _) _) _ _ _)); (fail_if_success (with_reducible show KswPost _ _ _ _ _ _ _ _ _ _ _ _ _ _)); (fail_if_success (with_reducible show InvPostN _ _ _ _ _ _ _ _ _)); (fail_if_success (with_reducible show InvEndN _ _ _ _ _ _ _)); (first | (k_unfold; (try dsimp only)) | (k_end; wrow_close) | walk1 | (dsimp only; walk1) | (leave1; walk_say "STEP leave1"; try dsimp only))) | fail "no step"))

theorem askM {h₀ h : Heap} {L : Addr} {m : Str → Option Value} (_ : Fr h₀ L h m) {P : (Str → Option Value) → Prop} (x : P m) : P m := x
/-- the two statements ahead of the checks -/
def lawHigh : Stmt × Stmt := match lawTail with
  | a :: b :: _ => (a, b)
  | _ => (.Pass default, .Pass default)
theorem lawTail_eq : lawTail = lawHigh.1 :: lawHigh.2 :: lawChecks := rfl
/-- the state of the turning round -/
structure RvSt where
  lo : Int
  hi : Int
  tl : Tok
  th : Tok
  f : Nat
  ns : List Int
  vs : List Value
  n : Nat
  led : List (Addr × Obj)
section
variable {w : World} {g : Heap} {A : Around} {s : Shared} {Q : Flow → Shared → Prop} {h₀ : Heap} {L a : Addr} {cd : Value} {m : Str → Option Value} {led : List (Addr × Obj)}
set_option maxHeartbeats 8000000 in
theorem tail_lc {r D : Addr} {vs vs0 : List Value} {n cD : Nat} {ns ns0 : List Int} {col low : Int} {tc t0 : Tok} {bk : Bool} {vt : Value} {b : Addr} {tl : Bool} (B : Bs w g) (gk : Keep g h₀)
    (F : Fr h₀ L s.heap m) (mlow : m (Str.ofString "low") = some (.int low t0)) (mcol : m (Str.ofString "col") = some (.int col tc)) (mback : m (Str.ofString "back") = some (.bool bk)) (mbef : m (Str.ofString "before") = some (.ref b)) (mheld : m (Str.ofString "held") = some (.ref D))
    (mtold : m (Str.ofString "told") = some vt) (mrow : m (Str.ofString "row") = some (.ref r)) (N : News h₀ L s.heap led) (TT : TLs led)
    (hr : (r, listOf vs.toArray n) ∈ led) (hi : IntsAre vs ns) (hlen : ns.length = 5) (hD : (D, listOf vs0.toArray cD) ∈ led) (hDr : D ≠ r) (hi0 : IntsAre vs0 ns0) (hlen0 : ns0.length = 5) (hc0 : 0 ≤ col) (hc5 : col ≤ 5) (hl0 : 0 ≤ low)
    (hh : A.handled = none) (hd : A.depth + 20 < recursionLimit) (hu : A.units + 400 < cLine)
    (hb : (bk = false ∧ b = 28) ∨ (bk = true ∧ b = 35)) (hvt : (vt = .none ∧ tl = false) ∨ (∃ f, vt = .ref f ∧ tl = true))
    (DD : DeedIs bk ns0 (revN 5 low (col - 1) ns) col tl)
    (ret : ∀ h' tk m' led' vs' n', Fr h₀ L h' m' → m' (Str.ofString "row") = some (.ref r) → News h₀ L h' led' → LR r led led' → TLs led' → (r, listOf (List.toArray vs') n') ∈ led' → IntsAre vs' (revN 5 low (col - 1) ns) → (revN 5 low (col - 1) ns).length = 5 → Q .next { s with heap := h', toks := tk }) :
    wpAny (model PySem.Challenge.rw_pe0030_01.row.prog w) A (execs lawTail (envOf (Str.ofString "law") lawScope L a cd)) Q (fun _ _ => False) s := by
  obtain ⟨ha, dp, fr, gd, un⟩ := A
  obtain rfl : ha = none := hh
  dsimp only at hd hu
  obtain ⟨loose, mean, mg, mb, T0⟩ := B.T
  have T := T0.keeps gk
  have X := B.X.keeps gk
  have F1 := canonFr F [(Str.ofString "low", .int low t0), (Str.ofString "col", .int col tc), (Str.ofString "back", .bool bk), (Str.ofString "before", .ref b), (Str.ofString "held", .ref D), (Str.ofString "told", vt), (Str.ofString "row", .ref r)] (by
    simp only [List.forall_mem_cons, List.not_mem_nil, false_implies, implies_true, and_true]
    exact ⟨mlow, mcol, mback, mbef, mheld, mtold, mrow⟩)
  dsimp only [kstB] at F1
  clear F mlow mcol mback mbef mheld mtold mrow
  generalize hS : lawScope = S
  conv at hS => lhs; whnf
  subst hS
  rw [lawTail_eq]
  generalize hC : lawChecks = LC
  generalize hA1 : lawHigh.1 = A1
  conv at hA1 => lhs; whnf
  subst hA1
  generalize hA2 : lawHigh.2 = A2
  conv at hA2 => lhs; whnf
  subst hA2
  tb_start
  (rename Fr _ _ _ _ => F2)
  (rename News _ _ _ _ => N2)
  obtain ⟨th0, mh⟩ := askM F2 (P := fun m => ∃ th, m (Str.ofString "high") = some (.int (col - 1) th)) ⟨_, rfl⟩
  refine ksw_while (σ := RvSt) (fun c => c.led) (fun c => [(Str.ofString "low", .int c.lo c.tl), (Str.ofString "high", .int c.hi c.th)]) (fun _ => True) []
      (fun c => LR r led c.led ∧ TLs c.led ∧ (r, listOf c.vs.toArray c.n) ∈ c.led ∧ IntsAre c.vs c.ns ∧ c.ns.length = 5 ∧ revN c.f c.lo c.hi c.ns = revN 5 low (col - 1) ns ∧ 0 ≤ c.lo ∧ c.hi < 5 ∧ c.hi - c.lo < 2 * c.f) (fun c => (5 - c.lo).toNat) ⟨low, col - 1, t0, th0, 5, ns, vs, n, led⟩ F2 N2 trivial ?_ ?_ ?_
  · simp only [List.forall_mem_cons, List.not_mem_nil, false_implies, implies_true, and_true]
    exact ⟨rfl, mh⟩
  · exact ⟨fun _ h _ => h, TT, hr, hi, hlen, rfl, hl0, by show col - 1 < 5; omega, by show col - 1 - low < 2 * 5; omega⟩
  · rintro ⟨lo, hh, tl1, th1, f, ns1, vs1, n1, led1⟩ u h9 tk9 _ ⟨lr1, TT1, hr1, hi1, hlen1, rv1, lo1, hh1, fb1⟩ F9 N9
    dsimp only [kstB] at F9 N9 lr1 TT1 hr1 hi1 hlen1 rv1 lo1 hh1 fb1
    dsimp only
    tb_start
    · (rename Fr _ _ _ _ => F3)
      (rename News _ _ _ _ => N3)
      have hlt : lo < hh := by omega
      refine exchange_L B gk F3 N3 (by dsimp only; omega) hr1 hi1 lo1 (by omega) (by omega) (by omega) (by omega) ?_
      intro vs2 n2 h2 tk2 hi2 F4 N4
      have TT2 := TT1.setRow (o := listOf vs2.toArray n2) N3 hr1
      have hr2 : (r, listOf vs2.toArray n2) ∈ setL led1 r (listOf vs2.toArray n2) := setL_at hr1
      have lr2 : LR r led (setL led1 r (listOf vs2.toArray n2)) := fun p hp n => setL_mem (lr1 p hp n) n
      have hlen2 := (swapAt_length ns1 lo.toNat hh.toNat).trans hlen1
      have rv2 := (revN_step hlt fb1).symm.trans rv1
      clear F3 N3
      tb_start
      (rename Fr _ _ _ _ => F5)
      (rename News _ _ _ _ => N5)
      obtain ⟨tl2, th2, m1, m2⟩ := askM F5 (P := fun m => ∃ a b, m (Str.ofString "low") = some (.int (lo + 1) a) ∧ m (Str.ofString "high") = some (.int (hh - 1) b)) ⟨_, _, rfl, rfl⟩
      dsimp only [KswPost]
      refine ksw_end (σ := RvSt) ⟨lo + 1, hh - 1, tl2, th2, f - 1, swapAt ns1 lo.toNat hh.toNat, vs2, n2, setL led1 r (listOf vs2.toArray n2)⟩ F5 N5 (fun p hp => hp) trivial ?_ ?_ ?_ ?_
      · simp only [List.forall_mem_cons, List.not_mem_nil, false_implies, implies_true, and_true]
        exact ⟨m1, m2⟩
      · ksw_same
      · exact ⟨lr2, TT2, hr2, hi2, hlen2, rv2, by show 0 ≤ lo + 1; omega, by show hh - 1 < 5; omega, by show hh - 1 - (lo + 1) < 2 * ((f - 1 : Nat) : Int); omega⟩
      · dsimp only
        omega
    · rename_i hge
      obtain rfl : ns1 = revN 5 low (col - 1) ns := (revN_done hge).symm.trans rv1
      rw [← hC]
      exact checks_lc B gk F9 rfl rfl rfl rfl rfl rfl N9 hr1 hi1 hlen1 (lr1 _ hD hDr) hi0 hlen0 hc0 hc5 rfl hd hu hb hvt DD (fun h' tk m' led' F' mr N' sub => ret h' tk m' led' vs1 n1 F' mr N' (fun p hp n => sub p (lr1 p hp n)) (TT1.mono sub) (sub _ hr1) hi1 hlen1)
end
end Mine
end PartTA
section PartT1
open PySem PySem.W PySem.Calls PySem.Spec PyProof.Rows
theorem Mine.calmT1 : True := by w_top off; k_with_none; trivial
set_option maxRecDepth 100000
namespace Mine
theorem fillK11 (w : World) (g : Heap) (X : (hd0.heap_39 w.params).In g) : (hd0.heap_39 w.params).In g ∧ PySem.Challenge.rw_pe0030_01 = PySem.Challenge.rw_pe0030_01 := by
  k_fill
  exact ⟨X, rfl⟩
local macro_rules | `(tactic| k_mem) => `(tactic| first | with_reducible exact List.Mem.head _ | with_reducible assumption | (with_reducible exact List.mem_append_left _ (by with_reducible assumption)) | ((with_reducible refine List.mem_cons_of_mem _ ?_); k_mem))
local macro_rules | `(tactic| kmk_nums) => `(tactic| first | ((with_reducible refine' kmk_from ?gi ?gx); (case gi => l_ints); (case gx => omega)) | ((with_reducible refine' kmk_upto ?gi ?gx); (case gi => l_ints); (case gx => omega)))
local macro_rules | `(tactic| tb_start) => `(tactic| repeat' (first | ((fail_if_success (with_reducible show wpAny _ _ (pyIter _) (fun it s₂ => LoopAtV _ _ _ _ _ _ _ _ _ it s₂) _ _)); (fail_if_success (with_reducible show wpAny _ _ (exec (Stmt.While _ _ _ _) _) _ _ _)); (fail_if_success (with_reducible show KswPost _ _ _ _ _ _ _ _ _ _ _ _ _ _)); (fail_if_success (with_reducible show InvPostN _ _ _ _ _ _ _ _ _)); (fail_if_success (with_reducible show InvEndN _ _ _ _ _ _ _)); (first | (k_unfold; (try dsimp only)) | (k_end; wrow_close) | walk1 | (dsimp only; walk1) | (leave1; walk_say "STEP leave1"; try dsimp only))) | fail "no step"))

theorem canonFr' {h₀ h : Heap} {L : Addr} {m : Str → Option Value} (F : Fr h₀ L h m) (ps : List (Str × Value)) (hp : ∀ p ∈ ps, m p.1 = some p.2) : ∃ u, Fr h₀ L h (kstB u ps) := ⟨m, canonFr F ps hp⟩
/-- the statements ahead of the tail -/
def lawPre : Stmt × Stmt × Stmt × Stmt × Stmt × Stmt × Stmt := match lawBody with
  | a :: b :: c :: d :: e :: f :: g :: _ => (a, b, c, d, e, f, g)
  | _ => (.Pass default, .Pass default, .Pass default, .Pass default, .Pass default, .Pass default, .Pass default)
theorem lawBody_eq : lawBody = lawPre.1 :: lawPre.2.1 :: lawPre.2.2.1 :: lawPre.2.2.2.1 :: lawPre.2.2.2.2.1 :: lawPre.2.2.2.2.2.1 :: lawPre.2.2.2.2.2.2 :: lawTail := rfl
/-- the things are 0 .. 4 -/
def Rng (ns : List Int) : Prop := ∀ x ∈ ns, 0 ≤ x ∧ x < 5
/-- the plain law: no turn was told -/
def PlainN : Prop := ∀ (bk : Bool) (ns : List Int) (col : Int), ns.length = 5 → Rng ns → 0 ≤ col → col ≤ 5 → (∀ k, 1 ≤ k → k < col → k ≤ 4 → turnP bk ns k = false) → DeedIs bk ns (revN 5 0 (col - 1) ns) col false
/-- the plain law: a turn was told -/
def PlainS : Prop := ∀ (bk : Bool) (ns : List Int) (col k j : Int), ns.length = 5 → Rng ns → 0 ≤ col → col ≤ 5 → 1 ≤ k → k < col → k ≤ 4 → turnP bk ns k = true → (∀ k', k < k' → k' < col → k' ≤ 4 → turnP bk ns k' = false) →
  0 ≤ j → j < col → j ≤ 4 → beyP bk (ns.getD (k - 1).toNat 0) ns j = true → (∀ k', j < k' → k' < col → k' ≤ 4 → beyP bk (ns.getD (k - 1).toNat 0) ns k' = false) →
  DeedIs bk ns (revN 5 k (col - 1) (swapAt ns (k - 1).toNat j.toNat)) col true
theorem DeedIs.rng {bk : Bool} {ns ns2 : List Int} {col : Int} {tl : Bool} (x : DeedIs bk ns ns2 col tl) (h : Rng ns) : Rng ns2 := by
  intro y hy
  rw [← List.take_append_drop col.toNat ns2] at hy
  rcases List.mem_append.mp hy with hy | hy
  · exact h y (List.mem_of_mem_take (x.same.subset hy))
  · rw [x.rest] at hy; exact h y (List.mem_of_mem_drop hy)
/-- all but r and the tables stay on the ledger -/
def LX (r : Addr) (led led' : List (Addr × Obj)) : Prop := ∀ p ∈ led, p.1 ≠ r → p.1 ≠ 65 → p.1 ≠ 51 → p.1 ≠ 58 → p ∈ led'
section
variable {w : World} {g : Heap} {A : Around} {s : Shared} {Q : Flow → Shared → Prop} {h₀ : Heap} {L a : Addr} {cd : Value} {u : Str → Option Value} {led : List (Addr × Obj)}
set_option maxHeartbeats 8000000 in
theorem turn_lc {r : Addr} {vs : List Value} {n : Nat} {ns : List Int} {d : Int} {t : Tok} (PN : PlainN) (PS : PlainS) (B : Bs w g) (gk : Keep g h₀)
    (F : Fr h₀ L s.heap (fun y => if y = Str.ofString "draw" then some (.int d t) else if y = Str.ofString "row" then some (.ref r) else u y)) (N : News h₀ L s.heap led) (TT : TLs led)
    (hr : (r, listOf vs.toArray n) ∈ led) (hi : IntsAre vs ns) (hlen : ns.length = 5) (hrng : Rng ns) (hdr0 : 0 ≤ d) (hdr1 : d < 1000000) (hh : A.handled = none) (hd : A.depth + 20 < recursionLimit) (hu : A.units + 400 < cLine)
    (ret : ∀ h' tk m' led' vs' n' ns', Fr h₀ L h' m' → m' (Str.ofString "row") = some (.ref r) → News h₀ L h' led' → LX r led led' → TLs led' → (r, listOf (List.toArray vs') n') ∈ led' → IntsAre vs' ns' → ns'.length = 5 → Rng ns' → Q .next { s with heap := h', toks := tk }) :
    wpAny (model PySem.Challenge.rw_pe0030_01.row.prog w) A (execs lawBody (envOf (Str.ofString "law") lawScope L a cd)) Q (fun _ _ => False) s := by
  obtain ⟨ha, dp, fr, gd, un⟩ := A
  obtain rfl : ha = none := hh
  dsimp only at hd hu
  obtain ⟨loose, mean, mg, mb, T0⟩ := B.T
  have T := T0.keeps gk
  have X := B.X.keeps gk
  have c65 := B.c65.keeps gk
  have c51 := B.c51.keeps gk
  have c58 := B.c58.keeps gk
  have nr := offTab N TT hr (by exact Value.noConfusion)
  generalize hS : lawScope = S
  conv at hS => lhs; whnf
  subst hS
  rw [lawBody_eq]
  generalize hC : lawTail = LC
  generalize hA0 : lawPre.1 = A0
  conv at hA0 => lhs; whnf
  subst hA0
  generalize hA1 : lawPre.2.1 = A1
  conv at hA1 => lhs; whnf
  subst hA1
  generalize hA2 : lawPre.2.2.1 = A2
  conv at hA2 => lhs; whnf
  subst hA2
  generalize hA3 : lawPre.2.2.2.1 = A3
  conv at hA3 => lhs; whnf
  subst hA3
  generalize hA4 : lawPre.2.2.2.2.1 = A4
  conv at hA4 => lhs; whnf
  subst hA4
  generalize hA5 : lawPre.2.2.2.2.2.1 = A5
  conv at hA5 => lhs; whnf
  subst hA5
  generalize hA6 : lawPre.2.2.2.2.2.2 = A6
  conv at hA6 => lhs; whnf
  subst hA6
  tb_start
  · (rename Fr _ _ _ _ => F1)
    (rename News _ _ _ _ => N1)
    have hcol : 0 ≤ Int.fmod (Int.fdiv d 5) 6 ∧ Int.fmod (Int.fdiv d 5) 6 ≤ 5 := by
      rw [Int.fmod_eq_emod_of_nonneg _ (by decide)]
      omega
    have hbk : (Int.fmod (Int.fdiv d 30) 2 == 1) = true := by
      by_cases q : Int.fmod (Int.fdiv d 30) 2 = 1
      · first | (simp [q]; done) | contradiction
      · first | (simp [q]; done) | contradiction
    obtain ⟨tc, mc⟩ := askM F1 (P := fun m => ∃ a, m (Str.ofString "col") = some (.int (Int.fmod (Int.fdiv d 5) 6) a)) ⟨_, rfl⟩
    have mb := askM F1 (P := fun m => m (Str.ofString "back") = some (.bool true)) (congrArg (fun b => some (Value.bool b)) hbk)
    obtain ⟨u1, F1c⟩ := canonFr' F1 [(Str.ofString "col", .int (Int.fmod (Int.fdiv d 5) 6) tc), (Str.ofString "back", .bool true), (Str.ofString "before", .ref 35), (Str.ofString "row", .ref r)] (by
      simp only [List.forall_mem_cons, List.not_mem_nil, false_implies, implies_true, and_true]
      exact ⟨mc, mb, rfl, rfl⟩)
    dsimp only [kstB] at F1c
    clear F1 mc mb
    refine list_copyK F1c N1 ⟨_, (N1 _ hr).1, rfl, n, rfl⟩ ?_ (by rw [List.size_toArray, hi.length, hlen, sizeLine_eq]; decide)
    intro D cD h2 F2 N2 l2
    (try dsimp only)
    tb_start
    (rename Fr _ _ _ _ => F3)
    (rename News _ _ _ _ => N3)
    generalize hcoleq : Int.fmod (Int.fdiv d 5) 6 = col at *
    have hDr : D ≠ r := fun q => by have h := l2 _ hr; rw [q] at h; exact Nat.lt_irrefl _ h
    have TT3 : TLs ((D, listOf vs.toArray cD) :: led) := TT.mono fun p hp => .tail _ hp
    refine turns_gt_lc B gk F3 N3 TT3 (by show dp < _; omega) ?_
    intro p4 h4 tk4 led4 F4 N4 le4 TT4 S4
    (try dsimp only)
    have nD := offTab N3 TT3 (.head _) (by exact Value.noConfusion)
    have hr4 := le4 _ (.tail _ hr) nr.1 nr.2.1 nr.2.2
    have hD4 := le4 _ (.head _) nD.1 nD.2.1 nD.2.2
    clear F3 N3
    tb_start
    refine sr_lc B gk F4 N4 TT4 hr4 hi hlen S4 (turnF_finds true ns hlen) hcol.1 hcol.2 rfl (by show dp + 5 < _; omega) (by show un + 200 < _; omega) ?_
    intro v5 h5 tk5 led5 res F5 N5 le5 TT5 last5 fo5
    (try dsimp only)
    have hr5 := le5 _ hr4 nr.1 nr.2.1 nr.2.2
    have hD5 := le5 _ hD4 nD.1 nD.2.1 nD.2.2
    have lx5 : LX r led led5 := fun p hp _ n1 n2 n3 => le5 p (le4 p (.tail _ hp) n1 n2 n3) n1 n2 n3
    clear F4 N4 S4
    rcases last5 with ⟨rfl, hno⟩ | ⟨k, rfl, q1, q2, q3, q4, q5⟩
    · obtain rfl : v5 = .none := fo5
      tb_start
      (rename Fr _ _ _ _ => F6)
      (rename News _ _ _ _ => N6)
      rw [← hC]
      have DD := PN true ns col hlen hrng hcol.1 hcol.2 hno
      obtain ⟨t6, m6⟩ := askM F6 (P := fun m => ∃ a, m (Str.ofString "low") = some (.int 0 a)) ⟨_, rfl⟩
      exact tail_lc B gk F6 m6 rfl rfl rfl rfl rfl rfl N6 TT5 hr5 hi hlen hD5 hDr hi hlen hcol.1 hcol.2 (by decide) rfl hd hu (.inr ⟨rfl, rfl⟩) (.inl ⟨rfl, rfl⟩) DD
        (fun h' tk m' led' vs' n' F' mr N' lr TT' hr' hi' hl' => ret h' tk m' led' vs' n' _ F' mr N' (fun p hp n n1 n2 n3 => lr p (lx5 p hp n n1 n2 n3) n) TT' hr' hi' hl' (DD.rng hrng))
    · obtain ⟨f5, rfl, H5⟩ := fo5
      tb_start
      (rename Fr _ _ _ _ => F6)
      (rename News _ _ _ _ => N6)
      obtain ⟨⟨fd5, d5, hf5, hd5, nf5⟩, H5b⟩ := id H5
      refine methOf N6 ⟨d5, hf5, hd5, nf5⟩ fnNoSpan ?_
      (try dsimp only)
      tb_start
      refine H5b _ _ _ _ _ _ _ led5 gk F6 N6 (LE.refl _) (by show dp < _; omega) ?_
      intro pt ti tj h7 tk7 F7 N7 lt7
      (try dsimp only)
      clear F6 N6
      tb_start
      (rename Fr _ _ _ _ => F8)
      (rename News _ _ _ _ => N8)
      refine getitem_K B gk F8 N8 (by show dp < _; omega) (.tail _ hr5) hi (by omega) (by omega) (by omega) ?_
      intro t9 h9 tk9 F9 N9
      (try dsimp only)
      clear F8 N8
      tb_start
      have TT9 : TLs ((pt, { cls := Value.type "tuple", data := Data.seq #[Value.int k ti, Value.int (k + 0) tj] }) :: led5) := TT5.mono fun p hp => .tail _ hp
      refine beyond_gt_lc B gk F9 N9 TT9 (by show dp < _; omega) ?_
      intro p10 h10 tk10 led10 F10 N10 le10 TT10 S10
      (try dsimp only)
      have hr10 := le10 _ (.tail _ hr5) nr.1 nr.2.1 nr.2.2
      have hD10 := le10 _ (.tail _ hD5) nD.1 nD.2.1 nD.2.2
      clear F9 N9
      tb_start
      refine sr_lc B gk F10 N10 TT10 hr10 hi hlen S10 (beyF_finds true _ ns hlen) hcol.1 hcol.2 rfl (by show dp + 5 < _; omega) (by show un + 200 < _; omega) ?_
      intro v11 h11 tk11 led11 res F11 N11 le11 TT11 last11 fo11
      (try dsimp only)
      have hr11 := le11 _ hr10 nr.1 nr.2.1 nr.2.2
      have hD11 := le11 _ hD10 nD.1 nD.2.1 nD.2.2
      have lx11 : LX r led led11 := fun p hp n n1 n2 n3 => le11 p (le10 p (.tail _ (lx5 p hp n n1 n2 n3)) n1 n2 n3) n1 n2 n3
      clear F10 N10 S10
      rcases last11 with ⟨rfl, hno11⟩ | ⟨j, rfl, r1, r2, r3, r4, r5⟩
      · exfalso
        have z := hno11 k (by omega) q2 q3
        have z2 : beyP true (ns.getD (k - 1).toNat 0) ns k = true := q4
        rw [z2] at z
        exact Bool.noConfusion z
      · obtain ⟨f11, rfl, H11⟩ := fo11
        tb_start
        (rename Fr _ _ _ _ => F12)
        (rename News _ _ _ _ => N12)
        obtain ⟨⟨fd11, d11, hf11, hd11, nf11⟩, H11b⟩ := id H11
        refine methOf N12 ⟨d11, hf11, hd11, nf11⟩ fnNoSpan ?_
        (try dsimp only)
        tb_start
        refine H11b _ _ _ _ _ _ _ led11 gk F12 N12 (LE.refl _) (by show dp < _; omega) ?_
        intro pt2 ti2 tj2 h13 tk13 F13 N13 lt13
        (try dsimp only)
        clear F12 N12
        tb_start
        (rename Fr _ _ _ _ => F14)
        (rename News _ _ _ _ => N14)
        have hr14 : (r, listOf vs.toArray n) ∈ (pt2, { cls := Value.type "tuple", data := Data.seq #[Value.int j ti2, Value.int (j + 1) tj2] }) :: led11 := .tail _ hr11
        refine exchange_L B gk F14 N14 (by show dp + 1 < _; omega) hr14 hi (by omega) (by omega) (by omega) (by omega) (by omega) ?_
        intro vs15 n15 h15 tk15 hi15 F15 N15
        have TT15 := (TT11.mono fun p hp => List.Mem.tail _ hp).setRow (o := listOf vs15.toArray n15) N14 hr14
        have hr15 := setL_at (o' := listOf vs15.toArray n15) hr14
        have hD15 := setL_mem (o := listOf vs15.toArray n15) (P := r) (List.Mem.tail (pt2, { cls := Value.type "tuple", data := Data.seq #[Value.int j ti2, Value.int (j + 1) tj2] }) hD11) hDr
        have lx15 : LX r led _ := fun p hp n n1 n2 n3 => setL_mem (o := listOf vs15.toArray n15) (List.Mem.tail (pt2, { cls := Value.type "tuple", data := Data.seq #[Value.int j ti2, Value.int (j + 1) tj2] }) (lx11 p hp n n1 n2 n3)) n
        have DD := PS true ns col k j hlen hrng hcol.1 hcol.2 q1 q2 q3 q4 q5 r1 r2 r3 r4 r5
        have hl15 := (swapAt_length ns (k - 1).toNat j.toNat).trans hlen
        clear F14 N14
        (try dsimp only)
        tb_start
        (rename Fr _ _ _ _ => F16)
        (rename News _ _ _ _ => N16)
        rw [← hC]
        exact tail_lc B gk F16 rfl rfl rfl rfl rfl rfl rfl N16 TT15 hr15 hi15 hl15 hD15 hDr hi hlen hcol.1 hcol.2 (by omega) rfl hd hu (.inr ⟨rfl, rfl⟩) (.inr ⟨_, rfl, rfl⟩) DD
          (fun h' tk m' led' vs' n' F' mr N' lr TT' hr' hi' hl' => ret h' tk m' led' vs' n' _ F' mr N' (fun p hp n n1 n2 n3 => lr p (lx15 p hp n n1 n2 n3) n) TT' hr' hi' hl' (DD.rng hrng))
  · (rename Fr _ _ _ _ => F1)
    (rename News _ _ _ _ => N1)
    have hcol : 0 ≤ Int.fmod (Int.fdiv d 5) 6 ∧ Int.fmod (Int.fdiv d 5) 6 ≤ 5 := by
      rw [Int.fmod_eq_emod_of_nonneg _ (by decide)]
      omega
    have hbk : (Int.fmod (Int.fdiv d 30) 2 == 1) = false := by
      by_cases q : Int.fmod (Int.fdiv d 30) 2 = 1
      · first | (simp [q]; done) | contradiction
      · first | (simp [q]; done) | contradiction
    obtain ⟨tc, mc⟩ := askM F1 (P := fun m => ∃ a, m (Str.ofString "col") = some (.int (Int.fmod (Int.fdiv d 5) 6) a)) ⟨_, rfl⟩
    have mb := askM F1 (P := fun m => m (Str.ofString "back") = some (.bool false)) (congrArg (fun b => some (Value.bool b)) hbk)
    obtain ⟨u1, F1c⟩ := canonFr' F1 [(Str.ofString "col", .int (Int.fmod (Int.fdiv d 5) 6) tc), (Str.ofString "back", .bool false), (Str.ofString "before", .ref 28), (Str.ofString "row", .ref r)] (by
      simp only [List.forall_mem_cons, List.not_mem_nil, false_implies, implies_true, and_true]
      exact ⟨mc, mb, rfl, rfl⟩)
    dsimp only [kstB] at F1c
    clear F1 mc mb
    refine list_copyK F1c N1 ⟨_, (N1 _ hr).1, rfl, n, rfl⟩ ?_ (by rw [List.size_toArray, hi.length, hlen, sizeLine_eq]; decide)
    intro D cD h2 F2 N2 l2
    (try dsimp only)
    tb_start
    (rename Fr _ _ _ _ => F3)
    (rename News _ _ _ _ => N3)
    generalize hcoleq : Int.fmod (Int.fdiv d 5) 6 = col at *
    have hDr : D ≠ r := fun q => by have h := l2 _ hr; rw [q] at h; exact Nat.lt_irrefl _ h
    have TT3 : TLs ((D, listOf vs.toArray cD) :: led) := TT.mono fun p hp => .tail _ hp
    refine turns_lt_lc B gk F3 N3 TT3 (by show dp < _; omega) ?_
    intro p4 h4 tk4 led4 F4 N4 le4 TT4 S4
    (try dsimp only)
    have nD := offTab N3 TT3 (.head _) (by exact Value.noConfusion)
    have hr4 := le4 _ (.tail _ hr) nr.1 nr.2.1 nr.2.2
    have hD4 := le4 _ (.head _) nD.1 nD.2.1 nD.2.2
    clear F3 N3
    tb_start
    refine sr_lc B gk F4 N4 TT4 hr4 hi hlen S4 (turnF_finds false ns hlen) hcol.1 hcol.2 rfl (by show dp + 5 < _; omega) (by show un + 200 < _; omega) ?_
    intro v5 h5 tk5 led5 res F5 N5 le5 TT5 last5 fo5
    (try dsimp only)
    have hr5 := le5 _ hr4 nr.1 nr.2.1 nr.2.2
    have hD5 := le5 _ hD4 nD.1 nD.2.1 nD.2.2
    have lx5 : LX r led led5 := fun p hp _ n1 n2 n3 => le5 p (le4 p (.tail _ hp) n1 n2 n3) n1 n2 n3
    clear F4 N4 S4
    rcases last5 with ⟨rfl, hno⟩ | ⟨k, rfl, q1, q2, q3, q4, q5⟩
    · obtain rfl : v5 = .none := fo5
      tb_start
      (rename Fr _ _ _ _ => F6)
      (rename News _ _ _ _ => N6)
      rw [← hC]
      have DD := PN false ns col hlen hrng hcol.1 hcol.2 hno
      obtain ⟨t6, m6⟩ := askM F6 (P := fun m => ∃ a, m (Str.ofString "low") = some (.int 0 a)) ⟨_, rfl⟩
      exact tail_lc B gk F6 m6 rfl rfl rfl rfl rfl rfl N6 TT5 hr5 hi hlen hD5 hDr hi hlen hcol.1 hcol.2 (by decide) rfl hd hu (.inl ⟨rfl, rfl⟩) (.inl ⟨rfl, rfl⟩) DD
        (fun h' tk m' led' vs' n' F' mr N' lr TT' hr' hi' hl' => ret h' tk m' led' vs' n' _ F' mr N' (fun p hp n n1 n2 n3 => lr p (lx5 p hp n n1 n2 n3) n) TT' hr' hi' hl' (DD.rng hrng))
    · obtain ⟨f5, rfl, H5⟩ := fo5
      tb_start
      (rename Fr _ _ _ _ => F6)
      (rename News _ _ _ _ => N6)
      obtain ⟨⟨fd5, d5, hf5, hd5, nf5⟩, H5b⟩ := id H5
      refine methOf N6 ⟨d5, hf5, hd5, nf5⟩ fnNoSpan ?_
      (try dsimp only)
      tb_start
      refine H5b _ _ _ _ _ _ _ led5 gk F6 N6 (LE.refl _) (by show dp < _; omega) ?_
      intro pt ti tj h7 tk7 F7 N7 lt7
      (try dsimp only)
      clear F6 N6
      tb_start
      (rename Fr _ _ _ _ => F8)
      (rename News _ _ _ _ => N8)
      refine getitem_K B gk F8 N8 (by show dp < _; omega) (.tail _ hr5) hi (by omega) (by omega) (by omega) ?_
      intro t9 h9 tk9 F9 N9
      (try dsimp only)
      clear F8 N8
      tb_start
      have TT9 : TLs ((pt, { cls := Value.type "tuple", data := Data.seq #[Value.int k ti, Value.int (k + 0) tj] }) :: led5) := TT5.mono fun p hp => .tail _ hp
      refine beyond_lt_lc B gk F9 N9 TT9 (by show dp < _; omega) ?_
      intro p10 h10 tk10 led10 F10 N10 le10 TT10 S10
      (try dsimp only)
      have hr10 := le10 _ (.tail _ hr5) nr.1 nr.2.1 nr.2.2
      have hD10 := le10 _ (.tail _ hD5) nD.1 nD.2.1 nD.2.2
      clear F9 N9
      tb_start
      refine sr_lc B gk F10 N10 TT10 hr10 hi hlen S10 (beyF_finds false _ ns hlen) hcol.1 hcol.2 rfl (by show dp + 5 < _; omega) (by show un + 200 < _; omega) ?_
      intro v11 h11 tk11 led11 res F11 N11 le11 TT11 last11 fo11
      (try dsimp only)
      have hr11 := le11 _ hr10 nr.1 nr.2.1 nr.2.2
      have hD11 := le11 _ hD10 nD.1 nD.2.1 nD.2.2
      have lx11 : LX r led led11 := fun p hp n n1 n2 n3 => le11 p (le10 p (.tail _ (lx5 p hp n n1 n2 n3)) n1 n2 n3) n1 n2 n3
      clear F10 N10 S10
      rcases last11 with ⟨rfl, hno11⟩ | ⟨j, rfl, r1, r2, r3, r4, r5⟩
      · exfalso
        have z := hno11 k (by omega) q2 q3
        have z2 : beyP false (ns.getD (k - 1).toNat 0) ns k = true := q4
        rw [z2] at z
        exact Bool.noConfusion z
      · obtain ⟨f11, rfl, H11⟩ := fo11
        tb_start
        (rename Fr _ _ _ _ => F12)
        (rename News _ _ _ _ => N12)
        obtain ⟨⟨fd11, d11, hf11, hd11, nf11⟩, H11b⟩ := id H11
        refine methOf N12 ⟨d11, hf11, hd11, nf11⟩ fnNoSpan ?_
        (try dsimp only)
        tb_start
        refine H11b _ _ _ _ _ _ _ led11 gk F12 N12 (LE.refl _) (by show dp < _; omega) ?_
        intro pt2 ti2 tj2 h13 tk13 F13 N13 lt13
        (try dsimp only)
        clear F12 N12
        tb_start
        (rename Fr _ _ _ _ => F14)
        (rename News _ _ _ _ => N14)
        have hr14 : (r, listOf vs.toArray n) ∈ (pt2, { cls := Value.type "tuple", data := Data.seq #[Value.int j ti2, Value.int (j + 1) tj2] }) :: led11 := .tail _ hr11
        refine exchange_L B gk F14 N14 (by show dp + 1 < _; omega) hr14 hi (by omega) (by omega) (by omega) (by omega) (by omega) ?_
        intro vs15 n15 h15 tk15 hi15 F15 N15
        have TT15 := (TT11.mono fun p hp => List.Mem.tail _ hp).setRow (o := listOf vs15.toArray n15) N14 hr14
        have hr15 := setL_at (o' := listOf vs15.toArray n15) hr14
        have hD15 := setL_mem (o := listOf vs15.toArray n15) (P := r) (List.Mem.tail (pt2, { cls := Value.type "tuple", data := Data.seq #[Value.int j ti2, Value.int (j + 1) tj2] }) hD11) hDr
        have lx15 : LX r led _ := fun p hp n n1 n2 n3 => setL_mem (o := listOf vs15.toArray n15) (List.Mem.tail (pt2, { cls := Value.type "tuple", data := Data.seq #[Value.int j ti2, Value.int (j + 1) tj2] }) (lx11 p hp n n1 n2 n3)) n
        have DD := PS false ns col k j hlen hrng hcol.1 hcol.2 q1 q2 q3 q4 q5 r1 r2 r3 r4 r5
        have hl15 := (swapAt_length ns (k - 1).toNat j.toNat).trans hlen
        clear F14 N14
        (try dsimp only)
        tb_start
        (rename Fr _ _ _ _ => F16)
        (rename News _ _ _ _ => N16)
        rw [← hC]
        exact tail_lc B gk F16 rfl rfl rfl rfl rfl rfl rfl N16 TT15 hr15 hi15 hl15 hD15 hDr hi hlen hcol.1 hcol.2 (by omega) rfl hd hu (.inl ⟨rfl, rfl⟩) (.inr ⟨_, rfl, rfl⟩) DD
          (fun h' tk m' led' vs' n' F' mr N' lr TT' hr' hi' hl' => ret h' tk m' led' vs' n' _ F' mr N' (fun p hp n n1 n2 n3 => lr p (lx15 p hp n n1 n2 n3) n) TT' hr' hi' hl' (DD.rng hrng))
end
end Mine
end PartT1
section PartML
open PySem PySem.W PySem.Calls PySem.Spec PyProof.Rows
theorem Mine.calmML : True := by w_top off; k_with_none; trivial
set_option maxRecDepth 100000
namespace Mine
/-- what holds of the law's frame ahead of each deed -/
structure JL (r l : Addr) (ol : Obj) (m : Str → Option Value) (led : List (Addr × Obj)) : Prop where
  row : m (Str.ofString "row") = some (.ref r)
  tab : TLs led
  lst : (l, ol) ∈ led
  at' : ∃ vs n ns, (r, listOf (List.toArray vs) n) ∈ led ∧ IntsAre vs ns ∧ ns.length = 5 ∧ Rng ns
theorem TL.off {h₀ h : Heap} {L I l : Addr} {led : List (Addr × Obj)} {P : Addr} {pos : Pos} {q : Str} {oI : Obj} {i : Int} {t : Tok} (x : TL led P pos q) (N : News h₀ L h led) (hI : (I, oI) ∈ led) (hd : oI.data = .fields #[.ref l, .int i t]) (hP : P ≠ I) :
    TL (led.filter fun p => p.1 ≠ I) P pos q := by
  obtain ⟨ps, a, b, c | ⟨c, oc, vs, t', e, hm, r1, r2⟩⟩ := x
  · exact ⟨ps, List.mem_filter.mpr ⟨a, by simpa using hP⟩, b, .inl c⟩
  · refine ⟨ps, List.mem_filter.mpr ⟨a, by simpa using hP⟩, b, .inr ⟨c, oc, vs, t', e, List.mem_filter.mpr ⟨hm, ?_⟩, r1, r2⟩⟩
    have : c ≠ I := by
      rintro rfl
      have e1 := (N _ hm).1
      have e2 := (N _ hI).1
      rw [e1] at e2
      cases e2
      rw [hd] at r1
      cases r1
      simp at r2
    simpa using this
section
variable {w : World} {g : Heap} {A : Around} {E : Value → Shared → Prop} {s : Shared} {Q : Flow → Shared → Prop} {h₀ : Heap} {L a : Addr} {cd : Value} {m₀ : Str → Option Value} {led : List (Addr × Obj)}
theorem lawLoop {r l : Addr} {lv : List Value} {nl : Nat} {ds : List Int} (PN : PlainN) (PS : PlainS) (B : Bs w g) (gk : Keep g h₀) (F : Fr h₀ L s.heap m₀) (N : News h₀ L s.heap led)
    (hi : IntsAre lv ds) (hds : ∀ d ∈ ds, 0 ≤ d ∧ d < 1000000) (hj : JL r l (listOf lv.toArray nl) m₀ led) (hrl : r ≠ l)
    (hh : A.handled = none) (hd : A.depth + 20 < recursionLimit) (hu : A.units + 400 < cLine)
    (done : ∀ m' h' tk led', JL r l (listOf lv.toArray nl) m' led' → Fr h₀ L h' m' → News h₀ L h' led' → Q .next { s with heap := h', toks := tk }) :
    wpAny (model PySem.Challenge.rw_pe0030_01.row.prog w) A (pyIter (.ref l)) (fun it s₂ => LoopAtU PySem.Challenge.rw_pe0030_01.row.prog w A h₀ (envOf (Str.ofString "law") lawScope L a cd) (Str.ofString "draw") lawBody Q E it s₂) E s := by
  have hl := hj.lst
  have hls : s.heap.IsList l lv.toArray := News.isList N hl
  have hlt : l < s.heap.objs.size := Heap.lt_size (N _ hl).1
  have hne : l ≠ s.heap.objs.size := Nat.ne_of_lt hlt
  refine wpAny_pyIter_list hls ?_
  have W := Walks.list (prog := PySem.Challenge.rw_pe0030_01.row.prog) (w := w) hh s.heap.objs.size l hne lv.toArray
  refine ⟨_, _, _, lv.toArray.size, _, _, m₀, led, fun _ m' led' => JL r l (listOf lv.toArray nl) m' led', rfl, W, ?_, ?_, ?_, ⟨⟨_, Heap.get?_push_size _ rfl, rfl, rfl⟩, hls.at fun o e => Heap.get?_push_of_some _ e⟩, F.push _, (fun p hp => ⟨Heap.get?_push_of_some _ (N p hp).1, (N p hp).2⟩), hj, ?_, ?_⟩
  · intro hm
    rcases List.mem_cons.mp hm with e | hm
    · exact absurd F.ns.lt (e ▸ Nat.lt_irrefl _)
    · exact (N _ hl).2.1 (List.mem_singleton.mp hm).symm
  · intro b hb
    rw [List.mem_singleton.mp hb]
    exact next_is_new F
  · intro p hp hI
    exact absurd (Heap.lt_size (N p hp).1) ((List.mem_singleton.mp hI) ▸ Nat.lt_irrefl _)
  · intro i v m₁ led₁ s₁ own hin hP hJ hoff hfp hown hall hSt F₁ N₁
    obtain ⟨mrow, TT, hl1, vs, n, ns, hr, hiv, hlen, hrng⟩ := hJ
    have hvi : lv[i]? = some v := by simpa using hP
    obtain ⟨d, hdm, hdv⟩ := hi.areOf.get i v hvi
    obtain ⟨t, rfl⟩ := ItemKind.int_is hdv
    have hdb := hds d (List.mem_of_getElem? hdm)
    obtain ⟨⟨oI, eI, cI, dI⟩, _⟩ := hSt
    have hIown : (s.heap.objs.size, oI) ∈ own := hall _ (List.mem_cons_self ..) (next_is_new F) _ eI
    have hrI : r ≠ s.heap.objs.size := fun q => hoff _ hr (by rw [q]; exact List.mem_singleton.mpr rfl)
    have e : (fun y => if y = Str.ofString "draw" then some (Value.int d t) else m₁ y) = (fun y => if y = Str.ofString "draw" then some (Value.int d t) else if y = Str.ofString "row" then some (.ref r) else m₁ y) := by
      funext y
      by_cases q : y = Str.ofString "draw"
      · rw [if_pos q, if_pos q]
      · rw [if_neg q, if_neg q]
        by_cases q2 : y = Str.ofString "row"
        · rw [if_pos q2, q2, mrow]
        · rw [if_neg q2]
    rw [e] at F₁
    have TTo : TLs (own ++ led₁) := TT.mono fun p hp => List.mem_append_right _ hp
    have nl := offTab N₁ TTo (List.mem_append_right _ hl1) (by exact Value.noConfusion)
    have nI := offTab N₁ TTo (List.mem_append_left _ hIown) (by rw [cI]; exact Value.noConfusion)
    refine wpAny_mono (turn_lc PN PS B gk F₁ N₁ TTo (List.mem_append_right _ hr) hiv hlen hrng hdb.1 hdb.2 hh hd hu ?_) (fun _ _ p => p) (fun _ _ p => p.elim)
    intro h' tk m' led' vs' n' ns' F' mr N' lx TT' hr' hi' hl' hrng'
    have ownr : ∀ p ∈ own, p ∈ led' := by
      intro p hp
      have hf := hfp p hp
      rcases List.mem_cons.mp hf with q | q
      · exact lx p (List.mem_append_left _ hp) (by rw [q]; exact hrI.symm) (by rw [q]; exact nI.1) (by rw [q]; exact nI.2.1) (by rw [q]; exact nI.2.2)
      · have q := List.mem_singleton.mp q
        exact lx p (List.mem_append_left _ hp) (by rw [q]; exact hrl.symm) (by rw [q]; exact nl.1) (by rw [q]; exact nl.2.1) (by rw [q]; exact nl.2.2)
    have hI' := ownr _ hIown
    refine ⟨rfl, h', tk, m', led'.filter (fun p => p.1 ≠ s.heap.objs.size), rfl, F', ?_, ?_, mr, ?_, ?_, vs', n', ns', ?_, hi', hl', hrng'⟩
    · intro p hp
      rcases List.mem_append.mp hp with hp | hp
      · exact N' p (ownr p hp)
      · exact N' p (List.mem_filter.mp hp).1
    · intro p hp q
      have := (List.mem_filter.mp hp).2
      rw [List.mem_singleton.mp q] at this
      simp at this
    · exact ⟨TT'.t65.off N' hI' dI nI.1.symm, TT'.t51.off N' hI' dI nI.2.1.symm, TT'.t58.off N' hI' dI nI.2.2.symm⟩
    · refine List.mem_filter.mpr ⟨lx _ (List.mem_append_right _ hl1) hrl.symm nl.1 nl.2.1 nl.2.2, ?_⟩
      simpa using hne
    · refine List.mem_filter.mpr ⟨hr', ?_⟩
      simpa using hrI
  · intro h' tk m' led' F' N' _ hJ
    exact done m' h' tk led' hJ F' N'
end
end Mine
end PartML
section PartM0
open PySem PySem.W PySem.Calls PySem.Spec PyProof.Rows
theorem Mine.calmM0 : True := by w_top off; k_with_none; trivial
set_option maxRecDepth 100000
namespace Mine
local macro_rules | `(tactic| k_mem) => `(tactic| first | with_reducible exact List.Mem.head _ | with_reducible assumption | (with_reducible exact List.mem_append_left _ (by with_reducible assumption)) | ((with_reducible refine List.mem_cons_of_mem _ ?_); k_mem))
local macro_rules | `(tactic| kmk_nums) => `(tactic| first | ((with_reducible refine' kmk_from ?gi ?gx); (case gi => l_ints); (case gx => omega)) | ((with_reducible refine' kmk_upto ?gi ?gx); (case gi => l_ints); (case gx => omega)))
local macro_rules | `(tactic| tb_start) => `(tactic| repeat' (first | ((fail_if_success (with_reducible show wpAny _ _ (pyIter _) (fun it s₂ => LoopAtV _ _ _ _ _ _ _ _ _ it s₂) _ _)); (fail_if_success (with_reducible show wpAny _ _ (exec (Stmt.While _ _ _ _) _) _ _ _)); (fail_if_success (with_reducible show KswPost _ _ _ _ _ _ _ _ _ _ _ _ _ _)); (fail_if_success (with_reducible show InvPostN _ _ _ _ _ _ _ _ _)); (fail_if_success (with_reducible show InvEndN _ _ _ _ _ _ _)); (first | (k_unfold; (try dsimp only)) | (k_end; wrow_close) | walk1 | (dsimp only; walk1) | (leave1; walk_say "STEP leave1"; try dsimp only))) | fail "no step"))

theorem rowLen (zs : List Int) : (List.map (fun k' : Int => k'.fmod 5) (List.map (fun k' : Int => k'.fmod 1000000) (List.take 5 zs)) ++ List.drop (((List.map (fun k' : Int => k'.fmod 5) (List.map (fun k' : Int => k'.fmod 1000000) (List.take 5 zs))).length : Int)).toNat [1, 3, 0, 3, 2]).length = 5 := by
  simp only [List.length_append, List.length_map, List.length_take, List.length_drop, List.length_cons, List.length_nil]
  omega
theorem rowRng (zs : List Int) (k : Nat) : Rng (List.map (fun k' : Int => k'.fmod 5) zs ++ List.drop k [1, 3, 0, 3, 2]) := by
  intro x hx
  rcases List.mem_append.mp hx with hx | hx
  · obtain ⟨y, _, rfl⟩ := List.mem_map.mp hx
    exact ⟨fmod_lo y (by decide), fmod_hi y (by decide)⟩
  · have := List.mem_of_mem_drop hx
    simp only [List.mem_cons, List.not_mem_nil, or_false] at this
    omega
theorem drawsOk (zs : List Int) : ∀ d ∈ List.map (fun k' : Int => k'.fmod 1000000) zs ++ [25, 55, 20, 40], 0 ≤ d ∧ d < 1000000 := by
  intro x hx
  rcases List.mem_append.mp hx with hx | hx
  · obtain ⟨y, _, rfl⟩ := List.mem_map.mp hx
    exact ⟨fmod_lo y (by decide), fmod_hi y (by decide)⟩
  · simp only [List.mem_cons, List.not_mem_nil, or_false] at hx
    omega
theorem noTab {led : List (Addr × Obj)} {P : Addr} {pos : Pos} {q : Str} (h : (P, tabObj #[]) ∈ led) : TL led P pos q := ⟨#[], h, by first | exact trivial | exact rfl | constructor, .inl rfl⟩
set_option maxHeartbeats 8000000 in
theorem final0 (PN : PlainN) (PS : PlainS) : PySem.Challenge.rw_pe0030_01.Holds := by
  refine hd0 ?_
  k_go0
  all_goals try k_fold
  tb_start
  (rename Fr _ _ _ _ => F)
  (rename News _ _ _ _ => N)
  (rename Top _ _ _ _ _ _ => T)
  (rename Frag.In _ _ => X)
  have B : Bs _ _ := ⟨X, ⟨_, _, _, _, T⟩, by with_unfolding_all assumption, by with_unfolding_all assumption, by with_unfolding_all assumption, (N (65, tabObj #[]) (by simp)).2.2, (N (51, tabObj #[]) (by simp)).2.2, (N (58, tabObj #[]) (by simp)).2.2⟩
  refine lawLoop PN PS B (fun _ _ e => e) F N (by assumption) (drawsOk _) ⟨rfl, ⟨noTab (by simp), noTab (by simp), noTab (by simp)⟩, .head _, _, 0, _, .tail _ (.tail _ (.head _)), by assumption, rowLen _, rowRng _ _⟩ ?hrl rfl (by show callerA.depth + 1 + 20 < recursionLimit; decide) (by first | (show callerA.units + 3 + 400 < cLine; decide) | (show callerA.units + 400 < cLine; decide) | (show callerA.units + 1 + 400 < cLine; decide)) ?_
  case hrl =>
    rename_i l1
    exact Nat.ne_of_lt l1.2.1
  intro m' h' tk' led' hJ F' N'
  obtain ⟨ps65, h65, _, _⟩ := hJ.tab.t65
  obtain ⟨ps51, h51, _, _⟩ := hJ.tab.t51
  obtain ⟨ps58, h58, _, _⟩ := hJ.tab.t58
  clear F N
  dsimp only
  tb_start
end Mine
end PartM0
section PartPF
open PySem
set_option maxRecDepth 100000
namespace Mine
/-- how often a stands in l -/
noncomputable def cF (a : Nat) (l : List Nat) : Nat := List.rec (motive := fun _ => Nat) 0 (fun x _ v => cond (Nat.beq x a) (Nat.add v 1) v) l
/-- the ways to lay pre (laid already, last first, n of them, acc ways) and r -/
noncomputable def wF (l : List Nat) : List Nat → Nat → Nat → Nat := List.rec (motive := fun _ => List Nat → Nat → Nat → Nat) (fun _ _ acc => acc)
  (fun x _ v pre n acc => v (x :: pre) (Nat.add n 1) (Nat.div (Nat.mul acc (Nat.add n 1)) (Nat.add (cF x pre) 1))) l
noncomputable def wF0 (l : List Nat) : Nat := wF l [] 0 1
/-- a thing 0 .. 4, looked at -/
def fo (x : Nat) (k : Nat → Nat) : Nat := cond (Nat.beq x 0) (k 0) (cond (Nat.beq x 1) (k 1) (cond (Nat.beq x 2) (k 2) (cond (Nat.beq x 3) (k 3) (cond (Nat.beq x 4) (k 4) (k x)))))
theorem fo_eq (x : Nat) (k : Nat → Nat) : fo x k = k x := by
  unfold fo
  have h : ∀ y, (Nat.beq x y = true ∧ x = y) ∨ (Nat.beq x y = false) := fun y => by
    cases e : Nat.beq x y with
    | true => exact .inl ⟨rfl, Nat.eq_of_beq_eq_true e⟩
    | false => exact .inr rfl
  rcases h 0 with ⟨a, b⟩ | a
  · rw [a, b]; rfl
  rcases h 1 with ⟨a1, b⟩ | a1
  · rw [a, a1, b]; rfl
  rcases h 2 with ⟨a2, b⟩ | a2
  · rw [a, a1, a2, b]; rfl
  rcases h 3 with ⟨a3, b⟩ | a3
  · rw [a, a1, a2, a3, b]; rfl
  rcases h 4 with ⟨a4, b⟩ | a4
  · rw [a, a1, a2, a3, a4, b]; rfl
  · rw [a, a1, a2, a3, a4]; rfl
/-- a row looked at, the last of r first -/
noncomputable def foL (r : List Nat) : List Nat → (List Nat → Nat) → Nat := List.rec (motive := fun _ => List Nat → (List Nat → Nat) → Nat) (fun l k => k l)
  (fun x _ v l k => fo x fun x' => v (x' :: l) k) r
theorem foL_eq (r : List Nat) : ∀ (l : List Nat) (k : List Nat → Nat), foL r l k = k (r.reverse ++ l) := by
  induction r with
  | nil => exact fun l k => rfl
  | cons x r ih =>
    intro l k
    show fo x (fun x' => foL r (x' :: l) k) = _
    rw [fo_eq, ih]; simp
/-- the ways behind each less thing that did not stand before -/
noncomputable def jF (x : Nat) (l : List Nat) : List Nat → Nat := List.rec (motive := fun _ => List Nat → Nat) (fun _ => 0)
  (fun y r v pre => Nat.add (cond (Nat.ble x y) 0 (cond (Nat.beq (cF y pre) 0) (foL pre r wF0) 0)) (v (y :: pre))) l
noncomputable def nF (l : List Nat) : Nat := List.rec (motive := fun _ => Nat) 0 (fun x r v => Nat.add (jF x r [x]) v) l
def ltF (bk : Bool) (a b : Nat) : Bool := cond bk (Nat.blt b a) (Nat.blt a b)
noncomputable def lexF (bk : Bool) (l : List Nat) : List Nat → Bool := List.rec (motive := fun _ => List Nat → Bool) (fun _ => false)
  (fun x _ v m => List.rec (motive := fun _ => Bool) false (fun y m _ => cond (Nat.beq x y) (v m) (ltF bk x y)) m) l
/-- what is asked -/
noncomputable def rF (bk : Bool) (old new : List Nat) (tl : Bool) : Bool :=
  cond (Nat.beq (nF new) (Nat.mod (cond bk (Nat.add (nF old) (Nat.sub (wF0 old) 1)) (Nat.add (nF old) 1)) (wF0 old))) (cond (Nat.beq (wF0 old) 0) false (cond (lexF bk old new) tl (not tl))) false
noncomputable def chk0 (bk : Bool) : Bool := rF bk [] [] false
noncomputable def chk1 (bk : Bool) (a : Nat) : Bool := rF bk [a] [a] false
noncomputable def chk2 (bk : Bool) (a b : Nat) : Bool := cond (ltF bk a b) (rF bk [a, b] [b, a] true) (rF bk [a, b] [b, a] false)
noncomputable def chk3 (bk : Bool) (a b c : Nat) : Bool := cond (ltF bk b c) (rF bk [a, b, c] [a, c, b] true) (cond (ltF bk a b) (cond (ltF bk a c) (rF bk [a, b, c] [c, a, b] true) (rF bk [a, b, c] [b, c, a] true)) (rF bk [a, b, c] [c, b, a] false))
noncomputable def chk4 (bk : Bool) (a b c d : Nat) : Bool := cond (ltF bk c d) (rF bk [a, b, c, d] [a, b, d, c] true) (cond (ltF bk b c) (cond (ltF bk b d) (rF bk [a, b, c, d] [a, d, b, c] true) (rF bk [a, b, c, d] [a, c, d, b] true)) (cond (ltF bk a b) (cond (ltF bk a d) (rF bk [a, b, c, d] [d, a, c, b] true) (cond (ltF bk a c) (rF bk [a, b, c, d] [c, d, a, b] true) (rF bk [a, b, c, d] [b, d, c, a] true))) (rF bk [a, b, c, d] [d, c, b, a] false)))
noncomputable def chk5 (bk : Bool) (a b c d e : Nat) : Bool := cond (ltF bk d e) (rF bk [a, b, c, d, e] [a, b, c, e, d] true) (cond (ltF bk c d) (cond (ltF bk c e) (rF bk [a, b, c, d, e] [a, b, e, c, d] true) (rF bk [a, b, c, d, e] [a, b, d, e, c] true)) (cond (ltF bk b c) (cond (ltF bk b e) (rF bk [a, b, c, d, e] [a, e, b, d, c] true) (cond (ltF bk b d) (rF bk [a, b, c, d, e] [a, d, e, b, c] true) (rF bk [a, b, c, d, e] [a, c, e, d, b] true))) (cond (ltF bk a b) (cond (ltF bk a e) (rF bk [a, b, c, d, e] [e, a, d, c, b] true) (cond (ltF bk a d) (rF bk [a, b, c, d, e] [d, e, a, c, b] true) (cond (ltF bk a c) (rF bk [a, b, c, d, e] [c, e, d, a, b] true) (rF bk [a, b, c, d, e] [b, e, d, c, a] true)))) (rF bk [a, b, c, d, e] [e, d, c, b, a] false))))
def all5 (f : Nat → Bool) : Bool := cond (f 0) (cond (f 1) (cond (f 2) (cond (f 3) (f 4) false) false) false) false
theorem ok0f : (chk0 false ) = true := by decide +kernel
theorem ok1f : (all5 fun a => chk1 false a) = true := by decide +kernel
theorem ok2f : (all5 fun a => all5 fun b => chk2 false a b) = true := by decide +kernel
theorem ok3f : (all5 fun a => all5 fun b => all5 fun c => chk3 false a b c) = true := by decide +kernel
theorem ok4f : (all5 fun a => all5 fun b => all5 fun c => all5 fun d => chk4 false a b c d) = true := by decide +kernel
theorem ok5f0 : (all5 fun b => all5 fun c => all5 fun d => all5 fun e => chk5 false 0 b c d e) = true := by decide +kernel
theorem ok5f1 : (all5 fun b => all5 fun c => all5 fun d => all5 fun e => chk5 false 1 b c d e) = true := by decide +kernel
theorem ok5f2 : (all5 fun b => all5 fun c => all5 fun d => all5 fun e => chk5 false 2 b c d e) = true := by decide +kernel
theorem ok5f3 : (all5 fun b => all5 fun c => all5 fun d => all5 fun e => chk5 false 3 b c d e) = true := by decide +kernel
theorem ok5f4 : (all5 fun b => all5 fun c => all5 fun d => all5 fun e => chk5 false 4 b c d e) = true := by decide +kernel
theorem ok0t : (chk0 true ) = true := by decide +kernel
theorem ok1t : (all5 fun a => chk1 true a) = true := by decide +kernel
theorem ok2t : (all5 fun a => all5 fun b => chk2 true a b) = true := by decide +kernel
theorem ok3t : (all5 fun a => all5 fun b => all5 fun c => chk3 true a b c) = true := by decide +kernel
theorem ok4t : (all5 fun a => all5 fun b => all5 fun c => all5 fun d => chk4 true a b c d) = true := by decide +kernel
theorem ok5t0 : (all5 fun b => all5 fun c => all5 fun d => all5 fun e => chk5 true 0 b c d e) = true := by decide +kernel
theorem ok5t1 : (all5 fun b => all5 fun c => all5 fun d => all5 fun e => chk5 true 1 b c d e) = true := by decide +kernel
theorem ok5t2 : (all5 fun b => all5 fun c => all5 fun d => all5 fun e => chk5 true 2 b c d e) = true := by decide +kernel
theorem ok5t3 : (all5 fun b => all5 fun c => all5 fun d => all5 fun e => chk5 true 3 b c d e) = true := by decide +kernel
theorem ok5t4 : (all5 fun b => all5 fun c => all5 fun d => all5 fun e => chk5 true 4 b c d e) = true := by decide +kernel
end Mine
end PartPF
section PartPW2
open PySem
set_option maxRecDepth 100000
set_option linter.unusedVariables false
namespace Mine
def wN (l : List Nat) : Nat → Nat
  | 0 => 1
  | k + 1 => wN l k * (k + 1) / (l.take (k + 1)).count (l.getD k 0)
def iN (l : List Nat) (x : Nat) : Nat → Nat
  | 0 => 0
  | j + 1 => if l.getD j 0 < x ∧ l.getD j 0 ∉ l.take j then iN l x j + wN (l.take j ++ l.drop (j + 1)) (l.take j ++ l.drop (j + 1)).length else iN l x j
def nN (l : List Nat) : Nat → Nat
  | 0 => 0
  | k + 1 => nN l k + iN (l.drop k) (l.getD k 0) (l.drop k).length
def up (l : List Nat) : List Int := l.map fun n : Nat => (n : Int)
theorem up_getD (l : List Nat) (k : Nat) : (up l).getD k 0 = ((l.getD k 0 : Nat) : Int) := by
  simp only [up, List.getD_eq_getElem?_getD, List.getElem?_map]
  cases l[k]? <;> rfl
theorem up_take (l : List Nat) (k : Nat) : (up l).take k = up (l.take k) := by simp [up, List.map_take]
theorem up_drop (l : List Nat) (k : Nat) : (up l).drop k = up (l.drop k) := by simp [up, List.map_drop]
theorem up_app (l r : List Nat) : up l ++ up r = up (l ++ r) := by simp [up]
theorem up_len (l : List Nat) : (up l).length = l.length := by simp [up]
theorem up_count (l : List Nat) (a : Nat) : (up l).count (a : Int) = l.count a := by
  induction l with
  | nil => rfl
  | cons x r ih =>
    have h : up (x :: r) = (x : Int) :: up r := rfl
    rw [h, List.count_cons, List.count_cons, ih]
    have : ((x : Int) == (a : Int)) = (x == a) := by
      rw [Bool.eq_iff_iff, beq_iff_eq, beq_iff_eq]
      omega
    rw [this]
theorem up_mem (l : List Nat) (a : Nat) : (a : Int) ∈ up l ↔ a ∈ l := by
  constructor
  · intro h
    obtain ⟨y, hy, e⟩ := List.mem_map.mp h
    have : y = a := by omega
    exact this ▸ hy
  · exact fun h => List.mem_map.mpr ⟨a, h, rfl⟩
theorem ways_up (l : List Nat) : ∀ k, waysUp (up l) k = (wN l k : Int)
  | 0 => rfl
  | k + 1 => by
    rw [waysUp, wN, ways_up l k, up_getD, up_take, up_count, Int.fdiv_eq_ediv_of_nonneg _ (by omega)]
    norm_cast
theorem inner_up (l : List Nat) (x : Nat) : ∀ j, innerUp (up l) (x : Int) j = (iN l x j : Int)
  | 0 => rfl
  | j + 1 => by
    rw [innerUp, iN, inner_up l x j, up_getD, up_take, up_drop, up_app, up_len, ways_up]
    by_cases h : l.getD j 0 < x ∧ l.getD j 0 ∉ l.take j
    · rw [if_pos h, if_pos ⟨by exact_mod_cast h.1, fun q => h.2 ((up_mem _ _).mp q)⟩]
      norm_cast
    · rw [if_neg h, if_neg (fun q => h ⟨by exact_mod_cast q.1, fun z => q.2 ((up_mem _ _).mpr z)⟩)]
theorem num_up (l : List Nat) : ∀ k, numUp (up l) k = (nN l k : Int)
  | 0 => rfl
  | k + 1 => by
    rw [numUp, nN, num_up l k, up_drop, up_getD, up_len, inner_up]
    norm_cast
theorem up_back {t : List Int} (h : ∀ x ∈ t, 0 ≤ x) : up (t.map Int.toNat) = t := by
  induction t with
  | nil => rfl
  | cons x r ih =>
    have h1 := ih fun y hy => h y (List.mem_cons_of_mem _ hy)
    have h2 := h x (List.mem_cons_self ..)
    show ((x.toNat : Nat) : Int) :: up (r.map Int.toNat) = x :: r
    rw [h1, Int.toNat_of_nonneg h2]
theorem cF_eq (a : Nat) (l : List Nat) : cF a l = l.count a := by
  induction l with
  | nil => rfl
  | cons x r ih =>
    show cond (Nat.beq x a) (Nat.add (cF a r) 1) (cF a r) = _
    rw [ih, List.count_cons]
    cases e : Nat.beq x a with
    | true => rw [if_pos (beq_iff_eq.mpr (Nat.eq_of_beq_eq_true e))]; rfl
    | false =>
      have : ¬ (x == a) = true := fun q => Nat.ne_of_beq_eq_false e (beq_iff_eq.mp q)
      rw [if_neg this]; rfl
theorem wF_eq (r : List Nat) : ∀ pre : List Nat, wF r pre pre.length (wN (pre.reverse ++ r) pre.length) = wN (pre.reverse ++ r) (pre.reverse ++ r).length := by
  induction r with
  | nil => intro pre; show wN _ _ = _; congr 1; simp
  | cons x r ih =>
    intro pre
    show wF r (x :: pre) (pre.length + 1) (wN (pre.reverse ++ x :: r) pre.length * (pre.length + 1) / (cF x pre + 1)) = _
    have h := ih (x :: pre)
    have e : (x :: pre).reverse ++ r = pre.reverse ++ x :: r := by simp
    rw [e] at h
    rw [← h]
    have e2 : wN (pre.reverse ++ x :: r) (x :: pre).length = wN (pre.reverse ++ x :: r) pre.length * (pre.length + 1) / (cF x pre + 1) := by
      rw [List.length_cons, wN, cF_eq]
      have g1 : (pre.reverse ++ x :: r).getD pre.length 0 = x := by
        rw [List.getD_eq_getElem?_getD, List.getElem?_append_right (by simp)]; simp
      have g2 : (pre.reverse ++ x :: r).take (pre.length + 1) = pre.reverse ++ [x] := by
        rw [List.take_append, List.take_of_length_le (by simp)]; simp
      rw [g1, g2]
      simp
    rw [e2]; rfl
theorem wF0_eq (l : List Nat) : wF0 l = wN l l.length := wF_eq l []
theorem jF_eq (x : Nat) (l : List Nat) : ∀ pre : List Nat, iN (pre.reverse ++ l) x pre.length + jF x l pre = iN (pre.reverse ++ l) x (pre.reverse ++ l).length := by
  induction l with
  | nil => intro pre; show _ + 0 = _; simp
  | cons y r ih =>
    intro pre
    have h := ih (y :: pre)
    have e : (y :: pre).reverse ++ r = pre.reverse ++ y :: r := by simp
    rw [e] at h
    rw [← h]
    show _ + (cond (Nat.ble x y) 0 (cond (Nat.beq (cF y pre) 0) (foL pre r wF0) 0) + jF x r (y :: pre)) = _
    rw [List.length_cons, iN]
    have g1 : (pre.reverse ++ y :: r).getD pre.length 0 = y := by
      rw [List.getD_eq_getElem?_getD, List.getElem?_append_right (by simp)]; simp
    have g2 : (pre.reverse ++ y :: r).take pre.length = pre.reverse := by simp
    have g3 : (pre.reverse ++ y :: r).drop (pre.length + 1) = r := by
      rw [List.drop_append, List.drop_of_length_le (by simp)]; simp
    rw [g1, g2, g3, foL_eq, wF0_eq, cF_eq]
    cases h1 : Nat.ble x y with
    | true =>
      have := Nat.le_of_ble_eq_true h1
      rw [if_neg (fun q => by omega)]
      show _ + (0 + _) = _
      omega
    | false =>
      have hxy : y < x := Nat.lt_of_not_le fun q => by rw [Nat.ble_eq_true_of_le q] at h1; cases h1
      show _ + (cond (Nat.beq (List.count y pre) 0) _ 0 + _) = _
      cases h2 : Nat.beq (List.count y pre) 0 with
      | true =>
        have := List.count_eq_zero.mp (Nat.eq_of_beq_eq_true h2)
        rw [if_pos ⟨hxy, fun q => this (List.mem_reverse.mp q)⟩, cond_true]
        omega
      | false =>
        have : y ∈ pre := List.count_pos_iff.mp (Nat.pos_of_ne_zero (Nat.ne_of_beq_eq_false h2))
        rw [if_neg fun q => q.2 (List.mem_reverse.mpr this)]
        show _ + (0 + _) = _
        omega
theorem nN_cons (x : Nat) (r : List Nat) : ∀ k, nN (x :: r) (k + 1) = iN (x :: r) x (x :: r).length + nN r k
  | 0 => by rw [nN, nN, nN]; show 0 + _ = _ + 0; rw [Nat.zero_add]; rfl
  | k + 1 => by
    rw [nN, nN_cons x r k, nN]
    rw [List.drop_succ_cons, List.getD_cons_succ]
    omega
theorem nF_eq (l : List Nat) : nF l = nN l l.length := by
  induction l with
  | nil => rfl
  | cons x r ih =>
    show jF x r [x] + nF r = _
    rw [List.length_cons, nN_cons, ih]
    have h := jF_eq x r [x]
    have h0 : iN ([x].reverse ++ r) x [x].length = 0 := by
      show iN (x :: r) x (0 + 1) = 0
      rw [iN, if_neg (fun q => Nat.lt_irrefl _ q.1)]; rfl
    rw [h0, Nat.zero_add] at h
    rw [h]; rfl
theorem relB_up (bk : Bool) (a b : Nat) : relB bk (a : Int) (b : Int) = ltF bk a b := by
  cases bk with
  | true =>
    show decide ((b : Int) < a) = Nat.blt b a
    rw [Bool.eq_iff_iff, decide_eq_true_iff, Nat.blt_eq]; omega
  | false =>
    show decide ((a : Int) < b) = Nat.blt a b
    rw [Bool.eq_iff_iff, decide_eq_true_iff, Nat.blt_eq]; omega
theorem lexF_eq (bk : Bool) (l : List Nat) : ∀ m : List Nat, lexB bk (up l) (up m) = lexF bk l m := by
  induction l with
  | nil => intro m; cases m <;> rfl
  | cons x l ih =>
    intro m
    cases m with
    | nil => rfl
    | cons y m =>
      show (if (x : Int) = y then lexB bk (up l) (up m) else relB bk x y) = cond (Nat.beq x y) (lexF bk l m) (ltF bk x y)
      rw [relB_up, ih]
      cases e : Nat.beq x y with
      | true => rw [if_pos (by have := Nat.eq_of_beq_eq_true e; omega)]; rfl
      | false => rw [if_neg (by have := Nat.ne_of_beq_eq_false e; omega)]; rfl
theorem lexB_same (bk : Bool) (r : List Int) : lexB bk r r = false := by
  induction r with
  | nil => rfl
  | cons x r ih => rw [lexB, if_pos rfl]; exact ih
theorem lexB_app (bk : Bool) (r : List Int) : ∀ l m : List Int, l.length = m.length → lexB bk (l ++ r) (m ++ r) = lexB bk l m
  | [], [], _ => lexB_same bk r
  | x :: l, y :: m, h => by
    rw [List.cons_append, List.cons_append, lexB, lexB, lexB_app bk r l m (by simpa using h)]
theorem deed_of {bk : Bool} {p q : List Nat} {tl : Bool} (r : List Nat) (hp : q.Perm p) (h : rF bk p q tl = true) : DeedIs bk (up p ++ up r) (up q ++ up r) (p.length : Int) tl := by
  have hl : q.length = p.length := hp.length_eq
  have e1 : (up p ++ up r).take (p.length : Int).toNat = up p := List.take_left' (up_len p)
  have e2 : (up q ++ up r).take (p.length : Int).toNat = up q := List.take_left' ((up_len q).trans hl)
  have e3 : (up p ++ up r).drop (p.length : Int).toNat = up r := List.drop_left' (up_len p)
  have e4 : (up q ++ up r).drop (p.length : Int).toNat = up r := List.drop_left' ((up_len q).trans hl)
  unfold rF at h
  rw [nF_eq, nF_eq, wF0_eq] at h
  cases h1 : Nat.beq (nN q q.length) (Nat.mod (cond bk (Nat.add (nN p p.length) (Nat.sub (wN p p.length) 1)) (Nat.add (nN p p.length) 1)) (wN p p.length)) with
  | false => rw [h1] at h; cases h
  | true =>
    rw [h1] at h
    replace h : cond (Nat.beq (wN p p.length) 0) false (cond (lexF bk p q) tl (not tl)) = true := h
    cases h2 : Nat.beq (wN p p.length) 0 with
    | true => rw [h2] at h; cases h
    | false =>
      rw [h2] at h
      replace h : cond (lexF bk p q) tl (not tl) = true := h
      have hw : 0 < wN p p.length := Nat.pos_of_ne_zero (Nat.ne_of_beq_eq_false h2)
      have hn := Nat.eq_of_beq_eq_true h1
      refine ⟨?_, ?_, ?_, ?_, ?_⟩
      · rw [e1, e2]; exact hp.map _
      · rw [e3, e4]
      · rw [e1, e2, up_len, up_len, num_up, num_up, ways_up, Int.fmod_eq_emod_of_nonneg _ (by omega), hn]
        cases bk with
        | false =>
          show (((nN p p.length + 1) % wN p p.length : Nat) : Int) = ((nN p p.length : Nat) + 1 : Int) % _
          norm_cast
        | true =>
          show (((nN p p.length + (wN p p.length - 1)) % wN p p.length : Nat) : Int) = ((nN p p.length : Nat) + -1 : Int) % _
          rw [← Int.add_emod_right]
          have : ((nN p p.length : Nat) : Int) + -1 + (wN p p.length : Nat) = ((nN p p.length + (wN p p.length - 1) : Nat) : Int) := by omega
          rw [this]; norm_cast
      · rw [e1, up_len, ways_up]; omega
      · rw [lexB_app _ _ _ _ (by rw [up_len, up_len, hl]), lexF_eq]
        cases q1 : lexF bk p q <;> cases tl <;> rw [q1] at h <;> first | rfl | cases h
theorem turn_up (bk : Bool) (l : List Nat) (k : Int) : turnP bk (up l) k = ltF bk (l.getD (k - 1).toNat 0) (l.getD k.toNat 0) := by
  unfold turnP; rw [up_getD, up_getD, relB_up]
theorem bey_up (bk : Bool) (l : List Nat) (i : Nat) (k : Int) : beyP bk ((up l).getD i 0) (up l) k = ltF bk (l.getD i 0) (l.getD k.toNat 0) := by
  unfold beyP; rw [up_getD, up_getD, relB_up]
theorem all5_of {f : Nat → Bool} (h : all5 f = true) {x : Nat} (hx : x < 5) : f x = true := by
  unfold all5 at h
  cases h0 : f 0 <;> rw [h0] at h <;> try cases h
  cases h1 : f 1 <;> rw [h1] at h <;> try cases h
  cases h2 : f 2 <;> rw [h2] at h <;> try cases h
  cases h3 : f 3 <;> rw [h3] at h <;> try cases h
  replace h : f 4 = true := h
  obtain rfl | rfl | rfl | rfl | rfl : x = 0 ∨ x = 1 ∨ x = 2 ∨ x = 3 ∨ x = 4 := by omega
  all_goals assumption
theorem row_of {ns : List Int} (h : ns.length = 5) (hr : Rng ns) : ∃ a b c d e : Nat, ns = up [a, b, c, d, e] ∧ a < 5 ∧ b < 5 ∧ c < 5 ∧ d < 5 ∧ e < 5 := by
  obtain ⟨a, b, c, d, e, rfl⟩ : ∃ a b c d e, ns = [a, b, c, d, e] := by
    match ns, h with
    | [a, b, c, d, e], _ => exact ⟨a, b, c, d, e, rfl⟩
  have ha := hr a (by simp)
  have hb := hr b (by simp)
  have hc := hr c (by simp)
  have hd := hr d (by simp)
  have he := hr e (by simp)
  refine ⟨a.toNat, b.toNat, c.toNat, d.toNat, e.toNat, ?_, by omega, by omega, by omega, by omega, by omega⟩
  exact (up_back (t := [a, b, c, d, e]) fun x hx => (hr x hx).1).symm
theorem okc0 (bk : Bool) : chk0 bk = true := by
  cases bk with
  | false => exact ok0f
  | true => exact ok0t
theorem okc1 (bk : Bool) {a : Nat} (ha : a < 5) : chk1 bk a = true := by
  cases bk with
  | false => exact (all5_of ok1f ha)
  | true => exact (all5_of ok1t ha)
theorem okc2 (bk : Bool) {a : Nat} {b : Nat} (ha : a < 5) (hb : b < 5) : chk2 bk a b = true := by
  cases bk with
  | false => exact (all5_of (all5_of ok2f ha) hb)
  | true => exact (all5_of (all5_of ok2t ha) hb)
theorem okc3 (bk : Bool) {a : Nat} {b : Nat} {c : Nat} (ha : a < 5) (hb : b < 5) (hc : c < 5) : chk3 bk a b c = true := by
  cases bk with
  | false => exact (all5_of (all5_of (all5_of ok3f ha) hb) hc)
  | true => exact (all5_of (all5_of (all5_of ok3t ha) hb) hc)
theorem okc4 (bk : Bool) {a : Nat} {b : Nat} {c : Nat} {d : Nat} (ha : a < 5) (hb : b < 5) (hc : c < 5) (hd : d < 5) : chk4 bk a b c d = true := by
  cases bk with
  | false => exact (all5_of (all5_of (all5_of (all5_of ok4f ha) hb) hc) hd)
  | true => exact (all5_of (all5_of (all5_of (all5_of ok4t ha) hb) hc) hd)
theorem okc5 (bk : Bool) {a : Nat} {b : Nat} {c : Nat} {d : Nat} {e : Nat} (ha : a < 5) (hb : b < 5) (hc : c < 5) (hd : d < 5) (he : e < 5) : chk5 bk a b c d e = true := by
  obtain rfl | rfl | rfl | rfl | rfl : a = 0 ∨ a = 1 ∨ a = 2 ∨ a = 3 ∨ a = 4 := by omega
  · cases bk with
    | false => exact (all5_of (all5_of (all5_of (all5_of ok5f0 hb) hc) hd) he)
    | true => exact (all5_of (all5_of (all5_of (all5_of ok5t0 hb) hc) hd) he)
  · cases bk with
    | false => exact (all5_of (all5_of (all5_of (all5_of ok5f1 hb) hc) hd) he)
    | true => exact (all5_of (all5_of (all5_of (all5_of ok5t1 hb) hc) hd) he)
  · cases bk with
    | false => exact (all5_of (all5_of (all5_of (all5_of ok5f2 hb) hc) hd) he)
    | true => exact (all5_of (all5_of (all5_of (all5_of ok5t2 hb) hc) hd) he)
  · cases bk with
    | false => exact (all5_of (all5_of (all5_of (all5_of ok5f3 hb) hc) hd) he)
    | true => exact (all5_of (all5_of (all5_of (all5_of ok5t3 hb) hc) hd) he)
  · cases bk with
    | false => exact (all5_of (all5_of (all5_of (all5_of ok5f4 hb) hc) hd) he)
    | true => exact (all5_of (all5_of (all5_of (all5_of ok5t4 hb) hc) hd) he)
theorem pn0 (bk : Bool) {a b c d e : Nat} (ha : a < 5) (hb : b < 5) (hc : c < 5) (hd : d < 5) (he : e < 5) (tn : ∀ k, 1 ≤ k → k < 0 → k ≤ 4 → turnP bk (up [a, b, c, d, e]) k = false) : DeedIs bk (up [a, b, c, d, e]) (revN 5 0 (0 - 1) (up [a, b, c, d, e])) 0 false := by
  have h := okc0 bk
  unfold chk0 at h
  exact deed_of (p := []) (q := []) [a, b, c, d, e] ((show List.Perm [] [] by decide).map fun i => [].getD i 0) h
theorem pn1 (bk : Bool) {a b c d e : Nat} (ha : a < 5) (hb : b < 5) (hc : c < 5) (hd : d < 5) (he : e < 5) (tn : ∀ k, 1 ≤ k → k < 1 → k ≤ 4 → turnP bk (up [a, b, c, d, e]) k = false) : DeedIs bk (up [a, b, c, d, e]) (revN 5 0 (1 - 1) (up [a, b, c, d, e])) 1 false := by
  have h := okc1 bk ha
  unfold chk1 at h
  exact deed_of (p := [a]) (q := [a]) [b, c, d, e] ((show List.Perm [0] [0] by decide).map fun i => [a].getD i 0) h
theorem pn2 (bk : Bool) {a b c d e : Nat} (ha : a < 5) (hb : b < 5) (hc : c < 5) (hd : d < 5) (he : e < 5) (tn : ∀ k, 1 ≤ k → k < 2 → k ≤ 4 → turnP bk (up [a, b, c, d, e]) k = false) : DeedIs bk (up [a, b, c, d, e]) (revN 5 0 (2 - 1) (up [a, b, c, d, e])) 2 false := by
  have h := okc2 bk ha hb
  unfold chk2 at h
  have t1 : ltF bk a b = false := (turn_up bk [a, b, c, d, e] 1).symm.trans (tn 1 (by decide) (by decide) (by decide))
  rw [t1] at h
  exact deed_of (p := [a, b]) (q := [b, a]) [c, d, e] ((show List.Perm [1, 0] [0, 1] by decide).map fun i => [a, b].getD i 0) h
theorem pn3 (bk : Bool) {a b c d e : Nat} (ha : a < 5) (hb : b < 5) (hc : c < 5) (hd : d < 5) (he : e < 5) (tn : ∀ k, 1 ≤ k → k < 3 → k ≤ 4 → turnP bk (up [a, b, c, d, e]) k = false) : DeedIs bk (up [a, b, c, d, e]) (revN 5 0 (3 - 1) (up [a, b, c, d, e])) 3 false := by
  have h := okc3 bk ha hb hc
  unfold chk3 at h
  have t2 : ltF bk b c = false := (turn_up bk [a, b, c, d, e] 2).symm.trans (tn 2 (by decide) (by decide) (by decide))
  have t1 : ltF bk a b = false := (turn_up bk [a, b, c, d, e] 1).symm.trans (tn 1 (by decide) (by decide) (by decide))
  rw [t2, t1] at h
  exact deed_of (p := [a, b, c]) (q := [c, b, a]) [d, e] ((show List.Perm [2, 1, 0] [0, 1, 2] by decide).map fun i => [a, b, c].getD i 0) h
theorem pn4 (bk : Bool) {a b c d e : Nat} (ha : a < 5) (hb : b < 5) (hc : c < 5) (hd : d < 5) (he : e < 5) (tn : ∀ k, 1 ≤ k → k < 4 → k ≤ 4 → turnP bk (up [a, b, c, d, e]) k = false) : DeedIs bk (up [a, b, c, d, e]) (revN 5 0 (4 - 1) (up [a, b, c, d, e])) 4 false := by
  have h := okc4 bk ha hb hc hd
  unfold chk4 at h
  have t3 : ltF bk c d = false := (turn_up bk [a, b, c, d, e] 3).symm.trans (tn 3 (by decide) (by decide) (by decide))
  have t2 : ltF bk b c = false := (turn_up bk [a, b, c, d, e] 2).symm.trans (tn 2 (by decide) (by decide) (by decide))
  have t1 : ltF bk a b = false := (turn_up bk [a, b, c, d, e] 1).symm.trans (tn 1 (by decide) (by decide) (by decide))
  rw [t3, t2, t1] at h
  exact deed_of (p := [a, b, c, d]) (q := [d, c, b, a]) [e] ((show List.Perm [3, 2, 1, 0] [0, 1, 2, 3] by decide).map fun i => [a, b, c, d].getD i 0) h
theorem pn5 (bk : Bool) {a b c d e : Nat} (ha : a < 5) (hb : b < 5) (hc : c < 5) (hd : d < 5) (he : e < 5) (tn : ∀ k, 1 ≤ k → k < 5 → k ≤ 4 → turnP bk (up [a, b, c, d, e]) k = false) : DeedIs bk (up [a, b, c, d, e]) (revN 5 0 (5 - 1) (up [a, b, c, d, e])) 5 false := by
  have h := okc5 bk ha hb hc hd he
  unfold chk5 at h
  have t4 : ltF bk d e = false := (turn_up bk [a, b, c, d, e] 4).symm.trans (tn 4 (by decide) (by decide) (by decide))
  have t3 : ltF bk c d = false := (turn_up bk [a, b, c, d, e] 3).symm.trans (tn 3 (by decide) (by decide) (by decide))
  have t2 : ltF bk b c = false := (turn_up bk [a, b, c, d, e] 2).symm.trans (tn 2 (by decide) (by decide) (by decide))
  have t1 : ltF bk a b = false := (turn_up bk [a, b, c, d, e] 1).symm.trans (tn 1 (by decide) (by decide) (by decide))
  rw [t4, t3, t2, t1] at h
  exact deed_of (p := [a, b, c, d, e]) (q := [e, d, c, b, a]) [] ((show List.Perm [4, 3, 2, 1, 0] [0, 1, 2, 3, 4] by decide).map fun i => [a, b, c, d, e].getD i 0) h
theorem plainN : PlainN := by
  intro bk ns col hlen hr c0 c5 tn
  obtain ⟨a, b, c, d, e, rfl, ha, hb, hc, hd, he⟩ := row_of hlen hr
  obtain rfl | rfl | rfl | rfl | rfl | rfl : col = 0 ∨ col = 1 ∨ col = 2 ∨ col = 3 ∨ col = 4 ∨ col = 5 := by omega
  · exact pn0 bk ha hb hc hd he tn
  · exact pn1 bk ha hb hc hd he tn
  · exact pn2 bk ha hb hc hd he tn
  · exact pn3 bk ha hb hc hd he tn
  · exact pn4 bk ha hb hc hd he tn
  · exact pn5 bk ha hb hc hd he tn
theorem ps211 (bk : Bool) {a b c d e : Nat} (ha : a < 5) (hb : b < 5) (hc : c < 5) (hd : d < 5) (he : e < 5) (tk : turnP bk (up [a, b, c, d, e]) 1 = true) (tl : ∀ k', 1 < k' → k' < 2 → k' ≤ 4 → turnP bk (up [a, b, c, d, e]) k' = false) (bj : beyP bk ((up [a, b, c, d, e]).getD (1 - 1 : Int).toNat 0) (up [a, b, c, d, e]) 1 = true) (bl : ∀ k', 1 < k' → k' < 2 → k' ≤ 4 → beyP bk ((up [a, b, c, d, e]).getD (1 - 1 : Int).toNat 0) (up [a, b, c, d, e]) k' = false) : DeedIs bk (up [a, b, c, d, e]) (revN 5 1 (2 - 1) (swapAt (up [a, b, c, d, e]) (1 - 1 : Int).toNat (1 : Int).toNat)) 2 true := by
  have h := okc2 bk ha hb
  unfold chk2 at h
  have t1 : ltF bk a b = true := (turn_up bk [a, b, c, d, e] 1).symm.trans tk
  rw [t1] at h
  exact deed_of (p := [a, b]) (q := [b, a]) [c, d, e] ((show List.Perm [1, 0] [0, 1] by decide).map fun i => [a, b].getD i 0) h
theorem ps311 (bk : Bool) {a b c d e : Nat} (ha : a < 5) (hb : b < 5) (hc : c < 5) (hd : d < 5) (he : e < 5) (tk : turnP bk (up [a, b, c, d, e]) 1 = true) (tl : ∀ k', 1 < k' → k' < 3 → k' ≤ 4 → turnP bk (up [a, b, c, d, e]) k' = false) (bj : beyP bk ((up [a, b, c, d, e]).getD (1 - 1 : Int).toNat 0) (up [a, b, c, d, e]) 1 = true) (bl : ∀ k', 1 < k' → k' < 3 → k' ≤ 4 → beyP bk ((up [a, b, c, d, e]).getD (1 - 1 : Int).toNat 0) (up [a, b, c, d, e]) k' = false) : DeedIs bk (up [a, b, c, d, e]) (revN 5 1 (3 - 1) (swapAt (up [a, b, c, d, e]) (1 - 1 : Int).toNat (1 : Int).toNat)) 3 true := by
  have h := okc3 bk ha hb hc
  unfold chk3 at h
  have t2 : ltF bk b c = false := (turn_up bk [a, b, c, d, e] 2).symm.trans (tl 2 (by decide) (by decide) (by decide))
  have t1 : ltF bk a b = true := (turn_up bk [a, b, c, d, e] 1).symm.trans tk
  have b2 : ltF bk a c = false := (bey_up bk [a, b, c, d, e] 0 2).symm.trans (bl 2 (by decide) (by decide) (by decide))
  rw [t2, t1, b2] at h
  exact deed_of (p := [a, b, c]) (q := [b, c, a]) [d, e] ((show List.Perm [1, 2, 0] [0, 1, 2] by decide).map fun i => [a, b, c].getD i 0) h
theorem ps312 (bk : Bool) {a b c d e : Nat} (ha : a < 5) (hb : b < 5) (hc : c < 5) (hd : d < 5) (he : e < 5) (tk : turnP bk (up [a, b, c, d, e]) 1 = true) (tl : ∀ k', 1 < k' → k' < 3 → k' ≤ 4 → turnP bk (up [a, b, c, d, e]) k' = false) (bj : beyP bk ((up [a, b, c, d, e]).getD (1 - 1 : Int).toNat 0) (up [a, b, c, d, e]) 2 = true) (bl : ∀ k', 2 < k' → k' < 3 → k' ≤ 4 → beyP bk ((up [a, b, c, d, e]).getD (1 - 1 : Int).toNat 0) (up [a, b, c, d, e]) k' = false) : DeedIs bk (up [a, b, c, d, e]) (revN 5 1 (3 - 1) (swapAt (up [a, b, c, d, e]) (1 - 1 : Int).toNat (2 : Int).toNat)) 3 true := by
  have h := okc3 bk ha hb hc
  unfold chk3 at h
  have t2 : ltF bk b c = false := (turn_up bk [a, b, c, d, e] 2).symm.trans (tl 2 (by decide) (by decide) (by decide))
  have t1 : ltF bk a b = true := (turn_up bk [a, b, c, d, e] 1).symm.trans tk
  have b2 : ltF bk a c = true := (bey_up bk [a, b, c, d, e] 0 2).symm.trans bj
  rw [t2, t1, b2] at h
  exact deed_of (p := [a, b, c]) (q := [c, a, b]) [d, e] ((show List.Perm [2, 0, 1] [0, 1, 2] by decide).map fun i => [a, b, c].getD i 0) h
theorem ps322 (bk : Bool) {a b c d e : Nat} (ha : a < 5) (hb : b < 5) (hc : c < 5) (hd : d < 5) (he : e < 5) (tk : turnP bk (up [a, b, c, d, e]) 2 = true) (tl : ∀ k', 2 < k' → k' < 3 → k' ≤ 4 → turnP bk (up [a, b, c, d, e]) k' = false) (bj : beyP bk ((up [a, b, c, d, e]).getD (2 - 1 : Int).toNat 0) (up [a, b, c, d, e]) 2 = true) (bl : ∀ k', 2 < k' → k' < 3 → k' ≤ 4 → beyP bk ((up [a, b, c, d, e]).getD (2 - 1 : Int).toNat 0) (up [a, b, c, d, e]) k' = false) : DeedIs bk (up [a, b, c, d, e]) (revN 5 2 (3 - 1) (swapAt (up [a, b, c, d, e]) (2 - 1 : Int).toNat (2 : Int).toNat)) 3 true := by
  have h := okc3 bk ha hb hc
  unfold chk3 at h
  have t2 : ltF bk b c = true := (turn_up bk [a, b, c, d, e] 2).symm.trans tk
  rw [t2] at h
  exact deed_of (p := [a, b, c]) (q := [a, c, b]) [d, e] ((show List.Perm [0, 2, 1] [0, 1, 2] by decide).map fun i => [a, b, c].getD i 0) h
theorem ps411 (bk : Bool) {a b c d e : Nat} (ha : a < 5) (hb : b < 5) (hc : c < 5) (hd : d < 5) (he : e < 5) (tk : turnP bk (up [a, b, c, d, e]) 1 = true) (tl : ∀ k', 1 < k' → k' < 4 → k' ≤ 4 → turnP bk (up [a, b, c, d, e]) k' = false) (bj : beyP bk ((up [a, b, c, d, e]).getD (1 - 1 : Int).toNat 0) (up [a, b, c, d, e]) 1 = true) (bl : ∀ k', 1 < k' → k' < 4 → k' ≤ 4 → beyP bk ((up [a, b, c, d, e]).getD (1 - 1 : Int).toNat 0) (up [a, b, c, d, e]) k' = false) : DeedIs bk (up [a, b, c, d, e]) (revN 5 1 (4 - 1) (swapAt (up [a, b, c, d, e]) (1 - 1 : Int).toNat (1 : Int).toNat)) 4 true := by
  have h := okc4 bk ha hb hc hd
  unfold chk4 at h
  have t3 : ltF bk c d = false := (turn_up bk [a, b, c, d, e] 3).symm.trans (tl 3 (by decide) (by decide) (by decide))
  have t2 : ltF bk b c = false := (turn_up bk [a, b, c, d, e] 2).symm.trans (tl 2 (by decide) (by decide) (by decide))
  have t1 : ltF bk a b = true := (turn_up bk [a, b, c, d, e] 1).symm.trans tk
  have b3 : ltF bk a d = false := (bey_up bk [a, b, c, d, e] 0 3).symm.trans (bl 3 (by decide) (by decide) (by decide))
  have b2 : ltF bk a c = false := (bey_up bk [a, b, c, d, e] 0 2).symm.trans (bl 2 (by decide) (by decide) (by decide))
  rw [t3, t2, t1, b3, b2] at h
  exact deed_of (p := [a, b, c, d]) (q := [b, d, c, a]) [e] ((show List.Perm [1, 3, 2, 0] [0, 1, 2, 3] by decide).map fun i => [a, b, c, d].getD i 0) h
theorem ps412 (bk : Bool) {a b c d e : Nat} (ha : a < 5) (hb : b < 5) (hc : c < 5) (hd : d < 5) (he : e < 5) (tk : turnP bk (up [a, b, c, d, e]) 1 = true) (tl : ∀ k', 1 < k' → k' < 4 → k' ≤ 4 → turnP bk (up [a, b, c, d, e]) k' = false) (bj : beyP bk ((up [a, b, c, d, e]).getD (1 - 1 : Int).toNat 0) (up [a, b, c, d, e]) 2 = true) (bl : ∀ k', 2 < k' → k' < 4 → k' ≤ 4 → beyP bk ((up [a, b, c, d, e]).getD (1 - 1 : Int).toNat 0) (up [a, b, c, d, e]) k' = false) : DeedIs bk (up [a, b, c, d, e]) (revN 5 1 (4 - 1) (swapAt (up [a, b, c, d, e]) (1 - 1 : Int).toNat (2 : Int).toNat)) 4 true := by
  have h := okc4 bk ha hb hc hd
  unfold chk4 at h
  have t3 : ltF bk c d = false := (turn_up bk [a, b, c, d, e] 3).symm.trans (tl 3 (by decide) (by decide) (by decide))
  have t2 : ltF bk b c = false := (turn_up bk [a, b, c, d, e] 2).symm.trans (tl 2 (by decide) (by decide) (by decide))
  have t1 : ltF bk a b = true := (turn_up bk [a, b, c, d, e] 1).symm.trans tk
  have b3 : ltF bk a d = false := (bey_up bk [a, b, c, d, e] 0 3).symm.trans (bl 3 (by decide) (by decide) (by decide))
  have b2 : ltF bk a c = true := (bey_up bk [a, b, c, d, e] 0 2).symm.trans bj
  rw [t3, t2, t1, b3, b2] at h
  exact deed_of (p := [a, b, c, d]) (q := [c, d, a, b]) [e] ((show List.Perm [2, 3, 0, 1] [0, 1, 2, 3] by decide).map fun i => [a, b, c, d].getD i 0) h
theorem ps413 (bk : Bool) {a b c d e : Nat} (ha : a < 5) (hb : b < 5) (hc : c < 5) (hd : d < 5) (he : e < 5) (tk : turnP bk (up [a, b, c, d, e]) 1 = true) (tl : ∀ k', 1 < k' → k' < 4 → k' ≤ 4 → turnP bk (up [a, b, c, d, e]) k' = false) (bj : beyP bk ((up [a, b, c, d, e]).getD (1 - 1 : Int).toNat 0) (up [a, b, c, d, e]) 3 = true) (bl : ∀ k', 3 < k' → k' < 4 → k' ≤ 4 → beyP bk ((up [a, b, c, d, e]).getD (1 - 1 : Int).toNat 0) (up [a, b, c, d, e]) k' = false) : DeedIs bk (up [a, b, c, d, e]) (revN 5 1 (4 - 1) (swapAt (up [a, b, c, d, e]) (1 - 1 : Int).toNat (3 : Int).toNat)) 4 true := by
  have h := okc4 bk ha hb hc hd
  unfold chk4 at h
  have t3 : ltF bk c d = false := (turn_up bk [a, b, c, d, e] 3).symm.trans (tl 3 (by decide) (by decide) (by decide))
  have t2 : ltF bk b c = false := (turn_up bk [a, b, c, d, e] 2).symm.trans (tl 2 (by decide) (by decide) (by decide))
  have t1 : ltF bk a b = true := (turn_up bk [a, b, c, d, e] 1).symm.trans tk
  have b3 : ltF bk a d = true := (bey_up bk [a, b, c, d, e] 0 3).symm.trans bj
  rw [t3, t2, t1, b3] at h
  exact deed_of (p := [a, b, c, d]) (q := [d, a, c, b]) [e] ((show List.Perm [3, 0, 2, 1] [0, 1, 2, 3] by decide).map fun i => [a, b, c, d].getD i 0) h
theorem ps422 (bk : Bool) {a b c d e : Nat} (ha : a < 5) (hb : b < 5) (hc : c < 5) (hd : d < 5) (he : e < 5) (tk : turnP bk (up [a, b, c, d, e]) 2 = true) (tl : ∀ k', 2 < k' → k' < 4 → k' ≤ 4 → turnP bk (up [a, b, c, d, e]) k' = false) (bj : beyP bk ((up [a, b, c, d, e]).getD (2 - 1 : Int).toNat 0) (up [a, b, c, d, e]) 2 = true) (bl : ∀ k', 2 < k' → k' < 4 → k' ≤ 4 → beyP bk ((up [a, b, c, d, e]).getD (2 - 1 : Int).toNat 0) (up [a, b, c, d, e]) k' = false) : DeedIs bk (up [a, b, c, d, e]) (revN 5 2 (4 - 1) (swapAt (up [a, b, c, d, e]) (2 - 1 : Int).toNat (2 : Int).toNat)) 4 true := by
  have h := okc4 bk ha hb hc hd
  unfold chk4 at h
  have t3 : ltF bk c d = false := (turn_up bk [a, b, c, d, e] 3).symm.trans (tl 3 (by decide) (by decide) (by decide))
  have t2 : ltF bk b c = true := (turn_up bk [a, b, c, d, e] 2).symm.trans tk
  have b3 : ltF bk b d = false := (bey_up bk [a, b, c, d, e] 1 3).symm.trans (bl 3 (by decide) (by decide) (by decide))
  rw [t3, t2, b3] at h
  exact deed_of (p := [a, b, c, d]) (q := [a, c, d, b]) [e] ((show List.Perm [0, 2, 3, 1] [0, 1, 2, 3] by decide).map fun i => [a, b, c, d].getD i 0) h
theorem ps423 (bk : Bool) {a b c d e : Nat} (ha : a < 5) (hb : b < 5) (hc : c < 5) (hd : d < 5) (he : e < 5) (tk : turnP bk (up [a, b, c, d, e]) 2 = true) (tl : ∀ k', 2 < k' → k' < 4 → k' ≤ 4 → turnP bk (up [a, b, c, d, e]) k' = false) (bj : beyP bk ((up [a, b, c, d, e]).getD (2 - 1 : Int).toNat 0) (up [a, b, c, d, e]) 3 = true) (bl : ∀ k', 3 < k' → k' < 4 → k' ≤ 4 → beyP bk ((up [a, b, c, d, e]).getD (2 - 1 : Int).toNat 0) (up [a, b, c, d, e]) k' = false) : DeedIs bk (up [a, b, c, d, e]) (revN 5 2 (4 - 1) (swapAt (up [a, b, c, d, e]) (2 - 1 : Int).toNat (3 : Int).toNat)) 4 true := by
  have h := okc4 bk ha hb hc hd
  unfold chk4 at h
  have t3 : ltF bk c d = false := (turn_up bk [a, b, c, d, e] 3).symm.trans (tl 3 (by decide) (by decide) (by decide))
  have t2 : ltF bk b c = true := (turn_up bk [a, b, c, d, e] 2).symm.trans tk
  have b3 : ltF bk b d = true := (bey_up bk [a, b, c, d, e] 1 3).symm.trans bj
  rw [t3, t2, b3] at h
  exact deed_of (p := [a, b, c, d]) (q := [a, d, b, c]) [e] ((show List.Perm [0, 3, 1, 2] [0, 1, 2, 3] by decide).map fun i => [a, b, c, d].getD i 0) h
theorem ps433 (bk : Bool) {a b c d e : Nat} (ha : a < 5) (hb : b < 5) (hc : c < 5) (hd : d < 5) (he : e < 5) (tk : turnP bk (up [a, b, c, d, e]) 3 = true) (tl : ∀ k', 3 < k' → k' < 4 → k' ≤ 4 → turnP bk (up [a, b, c, d, e]) k' = false) (bj : beyP bk ((up [a, b, c, d, e]).getD (3 - 1 : Int).toNat 0) (up [a, b, c, d, e]) 3 = true) (bl : ∀ k', 3 < k' → k' < 4 → k' ≤ 4 → beyP bk ((up [a, b, c, d, e]).getD (3 - 1 : Int).toNat 0) (up [a, b, c, d, e]) k' = false) : DeedIs bk (up [a, b, c, d, e]) (revN 5 3 (4 - 1) (swapAt (up [a, b, c, d, e]) (3 - 1 : Int).toNat (3 : Int).toNat)) 4 true := by
  have h := okc4 bk ha hb hc hd
  unfold chk4 at h
  have t3 : ltF bk c d = true := (turn_up bk [a, b, c, d, e] 3).symm.trans tk
  rw [t3] at h
  exact deed_of (p := [a, b, c, d]) (q := [a, b, d, c]) [e] ((show List.Perm [0, 1, 3, 2] [0, 1, 2, 3] by decide).map fun i => [a, b, c, d].getD i 0) h
theorem ps511 (bk : Bool) {a b c d e : Nat} (ha : a < 5) (hb : b < 5) (hc : c < 5) (hd : d < 5) (he : e < 5) (tk : turnP bk (up [a, b, c, d, e]) 1 = true) (tl : ∀ k', 1 < k' → k' < 5 → k' ≤ 4 → turnP bk (up [a, b, c, d, e]) k' = false) (bj : beyP bk ((up [a, b, c, d, e]).getD (1 - 1 : Int).toNat 0) (up [a, b, c, d, e]) 1 = true) (bl : ∀ k', 1 < k' → k' < 5 → k' ≤ 4 → beyP bk ((up [a, b, c, d, e]).getD (1 - 1 : Int).toNat 0) (up [a, b, c, d, e]) k' = false) : DeedIs bk (up [a, b, c, d, e]) (revN 5 1 (5 - 1) (swapAt (up [a, b, c, d, e]) (1 - 1 : Int).toNat (1 : Int).toNat)) 5 true := by
  have h := okc5 bk ha hb hc hd he
  unfold chk5 at h
  have t4 : ltF bk d e = false := (turn_up bk [a, b, c, d, e] 4).symm.trans (tl 4 (by decide) (by decide) (by decide))
  have t3 : ltF bk c d = false := (turn_up bk [a, b, c, d, e] 3).symm.trans (tl 3 (by decide) (by decide) (by decide))
  have t2 : ltF bk b c = false := (turn_up bk [a, b, c, d, e] 2).symm.trans (tl 2 (by decide) (by decide) (by decide))
  have t1 : ltF bk a b = true := (turn_up bk [a, b, c, d, e] 1).symm.trans tk
  have b4 : ltF bk a e = false := (bey_up bk [a, b, c, d, e] 0 4).symm.trans (bl 4 (by decide) (by decide) (by decide))
  have b3 : ltF bk a d = false := (bey_up bk [a, b, c, d, e] 0 3).symm.trans (bl 3 (by decide) (by decide) (by decide))
  have b2 : ltF bk a c = false := (bey_up bk [a, b, c, d, e] 0 2).symm.trans (bl 2 (by decide) (by decide) (by decide))
  rw [t4, t3, t2, t1, b4, b3, b2] at h
  exact deed_of (p := [a, b, c, d, e]) (q := [b, e, d, c, a]) [] ((show List.Perm [1, 4, 3, 2, 0] [0, 1, 2, 3, 4] by decide).map fun i => [a, b, c, d, e].getD i 0) h
theorem ps512 (bk : Bool) {a b c d e : Nat} (ha : a < 5) (hb : b < 5) (hc : c < 5) (hd : d < 5) (he : e < 5) (tk : turnP bk (up [a, b, c, d, e]) 1 = true) (tl : ∀ k', 1 < k' → k' < 5 → k' ≤ 4 → turnP bk (up [a, b, c, d, e]) k' = false) (bj : beyP bk ((up [a, b, c, d, e]).getD (1 - 1 : Int).toNat 0) (up [a, b, c, d, e]) 2 = true) (bl : ∀ k', 2 < k' → k' < 5 → k' ≤ 4 → beyP bk ((up [a, b, c, d, e]).getD (1 - 1 : Int).toNat 0) (up [a, b, c, d, e]) k' = false) : DeedIs bk (up [a, b, c, d, e]) (revN 5 1 (5 - 1) (swapAt (up [a, b, c, d, e]) (1 - 1 : Int).toNat (2 : Int).toNat)) 5 true := by
  have h := okc5 bk ha hb hc hd he
  unfold chk5 at h
  have t4 : ltF bk d e = false := (turn_up bk [a, b, c, d, e] 4).symm.trans (tl 4 (by decide) (by decide) (by decide))
  have t3 : ltF bk c d = false := (turn_up bk [a, b, c, d, e] 3).symm.trans (tl 3 (by decide) (by decide) (by decide))
  have t2 : ltF bk b c = false := (turn_up bk [a, b, c, d, e] 2).symm.trans (tl 2 (by decide) (by decide) (by decide))
  have t1 : ltF bk a b = true := (turn_up bk [a, b, c, d, e] 1).symm.trans tk
  have b4 : ltF bk a e = false := (bey_up bk [a, b, c, d, e] 0 4).symm.trans (bl 4 (by decide) (by decide) (by decide))
  have b3 : ltF bk a d = false := (bey_up bk [a, b, c, d, e] 0 3).symm.trans (bl 3 (by decide) (by decide) (by decide))
  have b2 : ltF bk a c = true := (bey_up bk [a, b, c, d, e] 0 2).symm.trans bj
  rw [t4, t3, t2, t1, b4, b3, b2] at h
  exact deed_of (p := [a, b, c, d, e]) (q := [c, e, d, a, b]) [] ((show List.Perm [2, 4, 3, 0, 1] [0, 1, 2, 3, 4] by decide).map fun i => [a, b, c, d, e].getD i 0) h
theorem ps513 (bk : Bool) {a b c d e : Nat} (ha : a < 5) (hb : b < 5) (hc : c < 5) (hd : d < 5) (he : e < 5) (tk : turnP bk (up [a, b, c, d, e]) 1 = true) (tl : ∀ k', 1 < k' → k' < 5 → k' ≤ 4 → turnP bk (up [a, b, c, d, e]) k' = false) (bj : beyP bk ((up [a, b, c, d, e]).getD (1 - 1 : Int).toNat 0) (up [a, b, c, d, e]) 3 = true) (bl : ∀ k', 3 < k' → k' < 5 → k' ≤ 4 → beyP bk ((up [a, b, c, d, e]).getD (1 - 1 : Int).toNat 0) (up [a, b, c, d, e]) k' = false) : DeedIs bk (up [a, b, c, d, e]) (revN 5 1 (5 - 1) (swapAt (up [a, b, c, d, e]) (1 - 1 : Int).toNat (3 : Int).toNat)) 5 true := by
  have h := okc5 bk ha hb hc hd he
  unfold chk5 at h
  have t4 : ltF bk d e = false := (turn_up bk [a, b, c, d, e] 4).symm.trans (tl 4 (by decide) (by decide) (by decide))
  have t3 : ltF bk c d = false := (turn_up bk [a, b, c, d, e] 3).symm.trans (tl 3 (by decide) (by decide) (by decide))
  have t2 : ltF bk b c = false := (turn_up bk [a, b, c, d, e] 2).symm.trans (tl 2 (by decide) (by decide) (by decide))
  have t1 : ltF bk a b = true := (turn_up bk [a, b, c, d, e] 1).symm.trans tk
  have b4 : ltF bk a e = false := (bey_up bk [a, b, c, d, e] 0 4).symm.trans (bl 4 (by decide) (by decide) (by decide))
  have b3 : ltF bk a d = true := (bey_up bk [a, b, c, d, e] 0 3).symm.trans bj
  rw [t4, t3, t2, t1, b4, b3] at h
  exact deed_of (p := [a, b, c, d, e]) (q := [d, e, a, c, b]) [] ((show List.Perm [3, 4, 0, 2, 1] [0, 1, 2, 3, 4] by decide).map fun i => [a, b, c, d, e].getD i 0) h
theorem ps514 (bk : Bool) {a b c d e : Nat} (ha : a < 5) (hb : b < 5) (hc : c < 5) (hd : d < 5) (he : e < 5) (tk : turnP bk (up [a, b, c, d, e]) 1 = true) (tl : ∀ k', 1 < k' → k' < 5 → k' ≤ 4 → turnP bk (up [a, b, c, d, e]) k' = false) (bj : beyP bk ((up [a, b, c, d, e]).getD (1 - 1 : Int).toNat 0) (up [a, b, c, d, e]) 4 = true) (bl : ∀ k', 4 < k' → k' < 5 → k' ≤ 4 → beyP bk ((up [a, b, c, d, e]).getD (1 - 1 : Int).toNat 0) (up [a, b, c, d, e]) k' = false) : DeedIs bk (up [a, b, c, d, e]) (revN 5 1 (5 - 1) (swapAt (up [a, b, c, d, e]) (1 - 1 : Int).toNat (4 : Int).toNat)) 5 true := by
  have h := okc5 bk ha hb hc hd he
  unfold chk5 at h
  have t4 : ltF bk d e = false := (turn_up bk [a, b, c, d, e] 4).symm.trans (tl 4 (by decide) (by decide) (by decide))
  have t3 : ltF bk c d = false := (turn_up bk [a, b, c, d, e] 3).symm.trans (tl 3 (by decide) (by decide) (by decide))
  have t2 : ltF bk b c = false := (turn_up bk [a, b, c, d, e] 2).symm.trans (tl 2 (by decide) (by decide) (by decide))
  have t1 : ltF bk a b = true := (turn_up bk [a, b, c, d, e] 1).symm.trans tk
  have b4 : ltF bk a e = true := (bey_up bk [a, b, c, d, e] 0 4).symm.trans bj
  rw [t4, t3, t2, t1, b4] at h
  exact deed_of (p := [a, b, c, d, e]) (q := [e, a, d, c, b]) [] ((show List.Perm [4, 0, 3, 2, 1] [0, 1, 2, 3, 4] by decide).map fun i => [a, b, c, d, e].getD i 0) h
theorem ps522 (bk : Bool) {a b c d e : Nat} (ha : a < 5) (hb : b < 5) (hc : c < 5) (hd : d < 5) (he : e < 5) (tk : turnP bk (up [a, b, c, d, e]) 2 = true) (tl : ∀ k', 2 < k' → k' < 5 → k' ≤ 4 → turnP bk (up [a, b, c, d, e]) k' = false) (bj : beyP bk ((up [a, b, c, d, e]).getD (2 - 1 : Int).toNat 0) (up [a, b, c, d, e]) 2 = true) (bl : ∀ k', 2 < k' → k' < 5 → k' ≤ 4 → beyP bk ((up [a, b, c, d, e]).getD (2 - 1 : Int).toNat 0) (up [a, b, c, d, e]) k' = false) : DeedIs bk (up [a, b, c, d, e]) (revN 5 2 (5 - 1) (swapAt (up [a, b, c, d, e]) (2 - 1 : Int).toNat (2 : Int).toNat)) 5 true := by
  have h := okc5 bk ha hb hc hd he
  unfold chk5 at h
  have t4 : ltF bk d e = false := (turn_up bk [a, b, c, d, e] 4).symm.trans (tl 4 (by decide) (by decide) (by decide))
  have t3 : ltF bk c d = false := (turn_up bk [a, b, c, d, e] 3).symm.trans (tl 3 (by decide) (by decide) (by decide))
  have t2 : ltF bk b c = true := (turn_up bk [a, b, c, d, e] 2).symm.trans tk
  have b4 : ltF bk b e = false := (bey_up bk [a, b, c, d, e] 1 4).symm.trans (bl 4 (by decide) (by decide) (by decide))
  have b3 : ltF bk b d = false := (bey_up bk [a, b, c, d, e] 1 3).symm.trans (bl 3 (by decide) (by decide) (by decide))
  rw [t4, t3, t2, b4, b3] at h
  exact deed_of (p := [a, b, c, d, e]) (q := [a, c, e, d, b]) [] ((show List.Perm [0, 2, 4, 3, 1] [0, 1, 2, 3, 4] by decide).map fun i => [a, b, c, d, e].getD i 0) h
theorem ps523 (bk : Bool) {a b c d e : Nat} (ha : a < 5) (hb : b < 5) (hc : c < 5) (hd : d < 5) (he : e < 5) (tk : turnP bk (up [a, b, c, d, e]) 2 = true) (tl : ∀ k', 2 < k' → k' < 5 → k' ≤ 4 → turnP bk (up [a, b, c, d, e]) k' = false) (bj : beyP bk ((up [a, b, c, d, e]).getD (2 - 1 : Int).toNat 0) (up [a, b, c, d, e]) 3 = true) (bl : ∀ k', 3 < k' → k' < 5 → k' ≤ 4 → beyP bk ((up [a, b, c, d, e]).getD (2 - 1 : Int).toNat 0) (up [a, b, c, d, e]) k' = false) : DeedIs bk (up [a, b, c, d, e]) (revN 5 2 (5 - 1) (swapAt (up [a, b, c, d, e]) (2 - 1 : Int).toNat (3 : Int).toNat)) 5 true := by
  have h := okc5 bk ha hb hc hd he
  unfold chk5 at h
  have t4 : ltF bk d e = false := (turn_up bk [a, b, c, d, e] 4).symm.trans (tl 4 (by decide) (by decide) (by decide))
  have t3 : ltF bk c d = false := (turn_up bk [a, b, c, d, e] 3).symm.trans (tl 3 (by decide) (by decide) (by decide))
  have t2 : ltF bk b c = true := (turn_up bk [a, b, c, d, e] 2).symm.trans tk
  have b4 : ltF bk b e = false := (bey_up bk [a, b, c, d, e] 1 4).symm.trans (bl 4 (by decide) (by decide) (by decide))
  have b3 : ltF bk b d = true := (bey_up bk [a, b, c, d, e] 1 3).symm.trans bj
  rw [t4, t3, t2, b4, b3] at h
  exact deed_of (p := [a, b, c, d, e]) (q := [a, d, e, b, c]) [] ((show List.Perm [0, 3, 4, 1, 2] [0, 1, 2, 3, 4] by decide).map fun i => [a, b, c, d, e].getD i 0) h
theorem ps524 (bk : Bool) {a b c d e : Nat} (ha : a < 5) (hb : b < 5) (hc : c < 5) (hd : d < 5) (he : e < 5) (tk : turnP bk (up [a, b, c, d, e]) 2 = true) (tl : ∀ k', 2 < k' → k' < 5 → k' ≤ 4 → turnP bk (up [a, b, c, d, e]) k' = false) (bj : beyP bk ((up [a, b, c, d, e]).getD (2 - 1 : Int).toNat 0) (up [a, b, c, d, e]) 4 = true) (bl : ∀ k', 4 < k' → k' < 5 → k' ≤ 4 → beyP bk ((up [a, b, c, d, e]).getD (2 - 1 : Int).toNat 0) (up [a, b, c, d, e]) k' = false) : DeedIs bk (up [a, b, c, d, e]) (revN 5 2 (5 - 1) (swapAt (up [a, b, c, d, e]) (2 - 1 : Int).toNat (4 : Int).toNat)) 5 true := by
  have h := okc5 bk ha hb hc hd he
  unfold chk5 at h
  have t4 : ltF bk d e = false := (turn_up bk [a, b, c, d, e] 4).symm.trans (tl 4 (by decide) (by decide) (by decide))
  have t3 : ltF bk c d = false := (turn_up bk [a, b, c, d, e] 3).symm.trans (tl 3 (by decide) (by decide) (by decide))
  have t2 : ltF bk b c = true := (turn_up bk [a, b, c, d, e] 2).symm.trans tk
  have b4 : ltF bk b e = true := (bey_up bk [a, b, c, d, e] 1 4).symm.trans bj
  rw [t4, t3, t2, b4] at h
  exact deed_of (p := [a, b, c, d, e]) (q := [a, e, b, d, c]) [] ((show List.Perm [0, 4, 1, 3, 2] [0, 1, 2, 3, 4] by decide).map fun i => [a, b, c, d, e].getD i 0) h
theorem ps533 (bk : Bool) {a b c d e : Nat} (ha : a < 5) (hb : b < 5) (hc : c < 5) (hd : d < 5) (he : e < 5) (tk : turnP bk (up [a, b, c, d, e]) 3 = true) (tl : ∀ k', 3 < k' → k' < 5 → k' ≤ 4 → turnP bk (up [a, b, c, d, e]) k' = false) (bj : beyP bk ((up [a, b, c, d, e]).getD (3 - 1 : Int).toNat 0) (up [a, b, c, d, e]) 3 = true) (bl : ∀ k', 3 < k' → k' < 5 → k' ≤ 4 → beyP bk ((up [a, b, c, d, e]).getD (3 - 1 : Int).toNat 0) (up [a, b, c, d, e]) k' = false) : DeedIs bk (up [a, b, c, d, e]) (revN 5 3 (5 - 1) (swapAt (up [a, b, c, d, e]) (3 - 1 : Int).toNat (3 : Int).toNat)) 5 true := by
  have h := okc5 bk ha hb hc hd he
  unfold chk5 at h
  have t4 : ltF bk d e = false := (turn_up bk [a, b, c, d, e] 4).symm.trans (tl 4 (by decide) (by decide) (by decide))
  have t3 : ltF bk c d = true := (turn_up bk [a, b, c, d, e] 3).symm.trans tk
  have b4 : ltF bk c e = false := (bey_up bk [a, b, c, d, e] 2 4).symm.trans (bl 4 (by decide) (by decide) (by decide))
  rw [t4, t3, b4] at h
  exact deed_of (p := [a, b, c, d, e]) (q := [a, b, d, e, c]) [] ((show List.Perm [0, 1, 3, 4, 2] [0, 1, 2, 3, 4] by decide).map fun i => [a, b, c, d, e].getD i 0) h
theorem ps534 (bk : Bool) {a b c d e : Nat} (ha : a < 5) (hb : b < 5) (hc : c < 5) (hd : d < 5) (he : e < 5) (tk : turnP bk (up [a, b, c, d, e]) 3 = true) (tl : ∀ k', 3 < k' → k' < 5 → k' ≤ 4 → turnP bk (up [a, b, c, d, e]) k' = false) (bj : beyP bk ((up [a, b, c, d, e]).getD (3 - 1 : Int).toNat 0) (up [a, b, c, d, e]) 4 = true) (bl : ∀ k', 4 < k' → k' < 5 → k' ≤ 4 → beyP bk ((up [a, b, c, d, e]).getD (3 - 1 : Int).toNat 0) (up [a, b, c, d, e]) k' = false) : DeedIs bk (up [a, b, c, d, e]) (revN 5 3 (5 - 1) (swapAt (up [a, b, c, d, e]) (3 - 1 : Int).toNat (4 : Int).toNat)) 5 true := by
  have h := okc5 bk ha hb hc hd he
  unfold chk5 at h
  have t4 : ltF bk d e = false := (turn_up bk [a, b, c, d, e] 4).symm.trans (tl 4 (by decide) (by decide) (by decide))
  have t3 : ltF bk c d = true := (turn_up bk [a, b, c, d, e] 3).symm.trans tk
  have b4 : ltF bk c e = true := (bey_up bk [a, b, c, d, e] 2 4).symm.trans bj
  rw [t4, t3, b4] at h
  exact deed_of (p := [a, b, c, d, e]) (q := [a, b, e, c, d]) [] ((show List.Perm [0, 1, 4, 2, 3] [0, 1, 2, 3, 4] by decide).map fun i => [a, b, c, d, e].getD i 0) h
theorem ps544 (bk : Bool) {a b c d e : Nat} (ha : a < 5) (hb : b < 5) (hc : c < 5) (hd : d < 5) (he : e < 5) (tk : turnP bk (up [a, b, c, d, e]) 4 = true) (tl : ∀ k', 4 < k' → k' < 5 → k' ≤ 4 → turnP bk (up [a, b, c, d, e]) k' = false) (bj : beyP bk ((up [a, b, c, d, e]).getD (4 - 1 : Int).toNat 0) (up [a, b, c, d, e]) 4 = true) (bl : ∀ k', 4 < k' → k' < 5 → k' ≤ 4 → beyP bk ((up [a, b, c, d, e]).getD (4 - 1 : Int).toNat 0) (up [a, b, c, d, e]) k' = false) : DeedIs bk (up [a, b, c, d, e]) (revN 5 4 (5 - 1) (swapAt (up [a, b, c, d, e]) (4 - 1 : Int).toNat (4 : Int).toNat)) 5 true := by
  have h := okc5 bk ha hb hc hd he
  unfold chk5 at h
  have t4 : ltF bk d e = true := (turn_up bk [a, b, c, d, e] 4).symm.trans tk
  rw [t4] at h
  exact deed_of (p := [a, b, c, d, e]) (q := [a, b, c, e, d]) [] ((show List.Perm [0, 1, 2, 4, 3] [0, 1, 2, 3, 4] by decide).map fun i => [a, b, c, d, e].getD i 0) h
theorem plainS : PlainS := by
  intro bk ns col k j hlen hr c0 c5 k1 kc k4 tk tl j0 jc j4 bj bl
  have hkj : k ≤ j := Decidable.byContradiction fun q => by
    have := bl k (by omega) kc k4
    rw [show beyP bk (ns.getD (k - 1).toNat 0) ns k = turnP bk ns k from rfl, tk] at this
    cases this
  obtain ⟨a, b, c, d, e, rfl, ha, hb, hc, hd, he⟩ := row_of hlen hr
  obtain rfl | rfl | rfl | rfl : col = 2 ∨ col = 3 ∨ col = 4 ∨ col = 5 := by omega
  · obtain rfl : k = 1 := by omega
    · obtain rfl : j = 1 := by omega
      · exact ps211 bk ha hb hc hd he tk tl bj bl
  · obtain rfl | rfl : k = 1 ∨ k = 2 := by omega
    · obtain rfl | rfl : j = 1 ∨ j = 2 := by omega
      · exact ps311 bk ha hb hc hd he tk tl bj bl
      · exact ps312 bk ha hb hc hd he tk tl bj bl
    · obtain rfl : j = 2 := by omega
      · exact ps322 bk ha hb hc hd he tk tl bj bl
  · obtain rfl | rfl | rfl : k = 1 ∨ k = 2 ∨ k = 3 := by omega
    · obtain rfl | rfl | rfl : j = 1 ∨ j = 2 ∨ j = 3 := by omega
      · exact ps411 bk ha hb hc hd he tk tl bj bl
      · exact ps412 bk ha hb hc hd he tk tl bj bl
      · exact ps413 bk ha hb hc hd he tk tl bj bl
    · obtain rfl | rfl : j = 2 ∨ j = 3 := by omega
      · exact ps422 bk ha hb hc hd he tk tl bj bl
      · exact ps423 bk ha hb hc hd he tk tl bj bl
    · obtain rfl : j = 3 := by omega
      · exact ps433 bk ha hb hc hd he tk tl bj bl
  · obtain rfl | rfl | rfl | rfl : k = 1 ∨ k = 2 ∨ k = 3 ∨ k = 4 := by omega
    · obtain rfl | rfl | rfl | rfl : j = 1 ∨ j = 2 ∨ j = 3 ∨ j = 4 := by omega
      · exact ps511 bk ha hb hc hd he tk tl bj bl
      · exact ps512 bk ha hb hc hd he tk tl bj bl
      · exact ps513 bk ha hb hc hd he tk tl bj bl
      · exact ps514 bk ha hb hc hd he tk tl bj bl
    · obtain rfl | rfl | rfl : j = 2 ∨ j = 3 ∨ j = 4 := by omega
      · exact ps522 bk ha hb hc hd he tk tl bj bl
      · exact ps523 bk ha hb hc hd he tk tl bj bl
      · exact ps524 bk ha hb hc hd he tk tl bj bl
    · obtain rfl | rfl : j = 3 ∨ j = 4 := by omega
      · exact ps533 bk ha hb hc hd he tk tl bj bl
      · exact ps534 bk ha hb hc hd he tk tl bj bl
    · obtain rfl : j = 4 := by omega
      · exact ps544 bk ha hb hc hd he tk tl bj bl
end Mine
end PartPW2
set_option maxRecDepth 100000 in
theorem PySem.Challenge.cw_pe0030_01_holds : PySem.Challenge.rw_pe0030_01.Holds := by
  exact Mine.final0 Mine.plainN Mine.plainS
