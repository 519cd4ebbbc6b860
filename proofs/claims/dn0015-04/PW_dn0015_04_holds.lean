import PyProof.Rows.All
import Wide.All
import OpenK.AllK
import Wide.FinOn
import PySem.Challenge.RW_dn0015_04
set_option Elab.async false
section PartF4
open PySem PySem.W PyProof.Rows PySem.Calls PySem.Builtin
set_option Elab.async false
namespace Mine
set_option maxRecDepth 100000
def hx (n : Nat) : Nat := if n < 10 then 48 + n else 55 + n
abbrev L16 : List Nat := [0, 1, 2, 3, 4, 5, 6, 7, 8, 9, 10, 11, 12, 13, 14, 15]
theorem in16 : ∀ n, n < 16 → n ∈ L16 := by decide
theorem fmt_tree : ∀ a ∈ L16, ∀ b ∈ L16, ∀ u t : Tok, «int.__format__» ⟨[.int ((16 * a + b : Nat) : Int) u, .str (Str.ofString "02X") t], []⟩ = (mkStr ⟨#[hx a, hx b]⟩ >>= fun v => ret v) := by
  simp only [L16, List.forall_mem_cons, List.not_mem_nil, false_implies, implies_true, and_true]
  repeat' (first | apply And.intro)
  all_goals (intro u t; kernel_rfl)
theorem fmt_eq {k : Nat} (hk : k < 256) (u t : Tok) : «int.__format__» ⟨[.int (k : Int) u, .str (Str.ofString "02X") t], []⟩ = (mkStr ⟨#[hx (k / 16), hx (k % 16)]⟩ >>= fun v => ret v) := by
  have := fmt_tree (k / 16) (in16 _ (by omega)) (k % 16) (in16 _ (by omega)) u t
  rwa [show 16 * (k / 16) + k % 16 = k by omega] at this
section
variable {prog : Program} {w : World} {A : Around} {E : Value → Shared → Prop} {s : Shared}
theorem formatOf_hex {k : Nat} {u : Tok} {Q : Value → Shared → Prop} (hk : k < 256) (h : ∀ t' kk, Q (.str ⟨#[hx (k / 16), hx (k % 16)]⟩ t') { s with toks := kk }) : wpAny (model prog w) A (PySem.Builtin.Str.formatOf (.int (k : Int) u) (Str.ofString "02X")) Q E s := by
  unfold PySem.Builtin.Str.formatOf
  refine KFB.if_not (by rfl) ?_
  refine wpAny_bind (wpAny_mkStr ?_ (by decide))
  refine wpAny_bind (m := callSpecial? (.int (k : Int) u) (PySem.Str.ofString "__format__") [.str (Str.ofString "02X") s.toks]) (wpAny_callSpecial?_slot (name := PySem.Str.ofString "__format__") (typeIs_int _ _ u) F.slot_int_format
    (wpAny_call_entry F.slot_int_format (typeIs_int _ _ u) F.entry_int_format ?_ (F.args_int_format_2 _ _)))
  rw [fmt_eq hk]
  refine wpAny_bind (wpAny_mkStr ?_ (by show 2 ≤ _; decide))
  refine wpAny_pure ⟨_, rfl, ?_⟩
  refine wpAny_bind (wpAny_of_eq (a := some ⟨#[hx (k / 16), hx (k % 16)]⟩) rfl ?_)
  refine KFB.if_not (by rfl) ?_
  exact wpAny_pure (h _ _)
theorem meets_fmt {k : Nat} {t u : Tok} (hk : k < 256) : Meets («str.format» ⟨[.str ⟨#[61, 123, 58, 48, 50, 88, 125]⟩ t, .int (k : Int) u], []⟩) (fun _ R s => ∀ t' kk, R (.ok (.ret (.str ⟨#[61, hx (k / 16), hx (k % 16)]⟩ t'))) { s with toks := kk }) := by
  apply KPc.meets_of
  intro _ _ _ _ _ _ _
  unfold Builtin.«str.format»
  refine wpAny_bind (wpAny_of_eq (a := (_, _, _)) rfl ?_)
  refine wpAny_bind ?_
  unfold Builtin.Str.buildString
  refine wpAny_bind ?_
  rw [KPc.range_list]
  refine KFm.start ?_
  intro _ _
  refine KPc.turn ?_
  kpc_if
  kpc_check
  refine wpAny_bind (KFm.field_auto (by kfm_num) (by rfl) ?_)
  refine wpAny_bind (wpAny_holding (wpAny_of_eq (a := _) rfl ?_))
  kpc_if
  refine wpAny_bind (wpAny_pure ?_)
  refine wpAny_bind (wpAny_holding (formatOf_hex hk ?_))
  intro _ _
  refine wpAny_bind (wpAny_of_eq (a := some _) rfl ?_)
  refine wpAny_pure ?_
  refine KFm.after_field (x' := ⟨#[61]⟩) (K := 2) (by kpc_g) (by rfl) (by kpc_obj) (by exact Nat.le_refl 2) (by kpc_obj) (by rfl) (by kfm_rest) ?_
  intro _ _
  refine KPc.turn ?_
  kpc_if
  kfm_close
end
end Mine

end PartF4
section PartK4
open PySem PySem.W PyProof.Rows PySem.Calls
set_option Elab.async false
namespace Mine
open LCg
/-- the pairs with key z -/
def picks (z : Int) (ps : List (Int × Value)) : List Value := (ps.filter fun p => p.1 == z).map (·.2)
theorem picks_take {z : Int} {ps : List (Int × Value)} {i : Nat} (h : i < ps.length) : picks z (ps.take (i + 1)) = picks z (ps.take i) ++ (if ps[i].1 == z then [ps[i].2] else []) := by
  unfold picks
  rw [List.take_add_one, List.getElem?_eq_getElem h]
  simp only [Option.toList_some, List.filter_append, List.map_append]
  congr 1
  by_cases c : ps[i].1 == z <;> simp [c]
/-- the items are tuples of the pairs -/
def PairsAt (h : Heap) (items : Array Value) (ps : List (Int × Value)) : Prop := items.size = ps.length ∧ ∀ j (hj : j < ps.length), ∃ T t, items[j]? = some (.ref T) ∧ h.IsTuple T #[.int ps[j].1 t, ps[j].2]
section
variable {prog : Program} {w : World} {A : Around} {E : Value → Shared → Prop} {s : Shared} {h₀ : Heap} {L : Addr} {m : Str → Option Value} {env : Env} {news : List (Addr × Obj)}
theorem pick_loop {a b z : Str} {pa pb pa' pb' pz tp pc : Pos} {kk : Nat} {iter : Expr} {scope : Scope} {cl : List (Str × Addr)} {pos : Pos} {s₁ : Shared} {base : Heap} {I ax C D c : Addr} {items : Array Value} {ps : List (Int × Value)} {oz : Int} {tz : Tok} {R : Result → Shared → Prop} {m' : Str → Option Value}
    (hh : A.handled = none) (hkind : scope.kind = .function) (ha : scope.names.lookup a = some .local) (hb : scope.names.lookup b = some .local) (hab : ¬ a = b)
    (hz : (compEnvC scope cl C env).kindOf z = some .cell) (hcl : cl.lookup z = some c) (hda : (a == ("__debug__" : Str)) = false) (hdb : (b == ("__debug__" : Str)) = false) (hdz : (z == ("__debug__" : Str)) = false)
    (hI : base.get? I = none) (hC : base.get? C = none) (hD : base.get? D = none) (hIC : I ≠ C) (hID : I ≠ D) (hCD : C ≠ D)
    (hl : base.IsList ax items) (hp : PairsAt base items ps) (hc : base.IsCell c (some (.int oz tz))) (hsz : ps.length ≤ 1000000)
    (k0 : ∀ x o, base.get? x = some o → s₁.heap.get? x = some o) (hit : s₁.heap.IsListIter I ax 0) (hns : s₁.heap.Ns C m') (hacc : s₁.heap.get? D = some (lst []))
    (done : ∀ h tk m', (∀ x o, base.get? x = some o → h.get? x = some o) → h.Ns C m' → h.get? D = some (lst (picks oz ps)) → R (.ok .next) { s₁ with heap := h, toks := tk }) :
    codeAny (model prog w) A (.compLoop (.ListComp (.Name b pb') [⟨.Tuple [.Name a pa, .Name b pb] kk tp, iter, [.Compare (.Name a pa') [.Eq] [.Name z pz] pc], 0⟩] scope pos) 0 (.ref I) (.ref D) (compEnvC scope cl C env)) R s₁ := by
  have ne : ∀ {x o}, base.get? x = some o → x ≠ I ∧ x ≠ C ∧ x ≠ D := fun {x o} e => ⟨fun q => (by rw [q, hI] at e; cases e), fun q => (by rw [q, hC] at e; cases e), fun q => (by rw [q, hD] at e; cases e)⟩
  obtain ⟨hps, hpt⟩ := hp
  have W := Walks.list (prog := prog) (w := w) hh I ax (by obtain ⟨o, e, _⟩ := hl; exact (ne e).1) items
  have hkf : (compEnvC scope cl C env).scope.kind = .function := hkind
  refine kct_loop
    (fun k s' => ∃ h tk i m', s' = { s₁ with heap := h, toks := tk } ∧ i ≤ ps.length ∧ k = ps.length + 1 - i ∧ h.IsListIter I ax i ∧ (∀ x o, base.get? x = some o → h.get? x = some o) ∧ h.Ns C m' ∧ h.get? D = some (lst (picks oz (ps.take i)))) ?_ (ps.length + 1)
    ⟨s₁.heap, s₁.toks, 0, m', rfl, Nat.zero_le _, rfl, hit, k0, hns, by simpa [picks] using hacc⟩
  rintro k s' ⟨h, tk, i, m₁, rfl, hi, rfl, hit', kp, hn', hD'⟩
  have hl' : h.IsList ax items := hl.at fun o e => kp _ _ e
  by_cases hlt : i < ps.length
  · refine W.item i _ _ _ (by rw [hps]; exact hlt) ⟨hit', hl'⟩ fun v h₂ tk₂ hv hst₂ hk₂ => ?_
    obtain ⟨T, t, hT, htup⟩ := hpt i hlt
    have hv' : items[i]? = some v := hv
    rw [hT] at hv'
    cases hv'
    refine wpAny_letOwnedTupleGo_listiter hst₂.1 ?_
    have kp₂ : ∀ x o, base.get? x = some o → h₂.get? x = some o := fun x o e => hk₂ x o (by simpa using (ne e).1) (kp x o e)
    have tup₂ : h₂.IsTuple T #[.int ps[i].1 t, ps[i].2] := by
      obtain ⟨o, e, r⟩ := htup
      exact ⟨o, kp₂ _ _ e, r⟩
    refine kcp_assign (env := compEnvC scope cl C env) hh tup₂ (lookup_relabel_local ha) (lookup_relabel_local hb) (by simp [compEnvC, relabel, hkind]) (hn'.at' fun o e => hk₂ _ o (by simpa using Ne.symm hIC) e) fun h₃ tk₃ hn₃ hk₃ => ?_
    have kp₃ : ∀ x o, base.get? x = some o → h₃.get? x = some o := fun x o e => hk₃ x o (ne e).2.1 (kp₂ x o e)
    have hD₃ : h₃.get? D = some (lst (picks oz (ps.take i))) := hk₃ _ _ (Ne.symm hCD) (hk₂ _ _ (by simpa using Ne.symm hID) hD')
    have hit₃ : h₃.IsListIter I ax (i + 1) := hst₂.1.at fun o e => hk₃ _ o hIC e
    refine wpAny_isTrue_Compare1 ?_
    refine wpAny_Name (wpAny_loadName_local hkf (lookup_relabel_local ha) hn₃ (v := .int ps[i].1 t) (by simp [hab]) ?_) hda
    refine wpAny_Name (wpAny_loadName_cell hkf hz hcl (v := .int oz tz) (by obtain ⟨o, e, r⟩ := hc; exact ⟨o, kp₃ _ _ e, r⟩) ?_) hdz
    refine PyProof.Rows.eq_int (wpAny_truthy_bool ?_)
    have e1 := picks_take (z := oz) hlt
    by_cases hk : (ps[i].1 == oz) = true
    · rw [if_pos hk]
      rw [if_pos hk] at e1
      refine wpAny_Name (wpAny_loadName_local hkf (lookup_relabel_local hb) hn₃ (v := ps[i].2) (by simp) ?_) hdb
      have hlen : (picks oz (ps.take i)).length ≤ i := by
        unfold picks
        rw [List.length_map]
        exact Nat.le_trans (List.length_filter_le _ _) (by rw [List.length_take]; omega)
      refine append_at (hsz := by show (picks oz (ps.take i)).toArray.size ≤ sizeLine; rw [List.size_toArray, sizeLine_eq]; omega) hD₃ fun h₄ hs₄ hD₄ => ?_
      refine ⟨ps.length + 1 - (i + 1), by omega, h₄, _, i + 1, _, rfl, hlt, rfl, hit₃.at fun o e => hs₄.extBut _ _ hID e, fun x o e => hs₄.extBut _ _ (ne e).2.2 (kp₃ x o e), hn₃.sameBut hs₄ hCD, ?_⟩
      rw [e1]
      exact hD₄.trans (congrArg some (lst_snoc _ _))
    · rw [if_neg hk]
      rw [if_neg hk, List.append_nil] at e1
      exact ⟨ps.length + 1 - (i + 1), by omega, h₃, _, i + 1, _, rfl, hlt, rfl, hit₃, kp₃, hn₃, by rw [e1]; exact hD₃⟩
  · have hin : i = ps.length := by omega
    subst hin
    refine W.done _ _ _ (by rw [hps]; exact ⟨hit', hl'⟩) fun h₂ tk₂ hk₂ => ?_
    rw [List.take_length] at hD'
    exact done h₂ tk₂ m₁ (fun x o e => hk₂ x o (by simpa using (ne e).1) (kp x o e)) (hn'.at' fun o e => hk₂ _ o (by simpa using Ne.symm hIC) e) (hk₂ _ _ (by simpa using Ne.symm hID) hD')
theorem lt_ne1 {a n : Nat} (h : a < n) : a ≠ n + 1 := by omega
theorem lt_ne2 {a n : Nat} (h : a < n) : a ≠ n + 1 + 1 := by omega
theorem n_ne1 {n : Nat} : n ≠ n + 1 := by omega
theorem n_ne2 {n : Nat} : n ≠ n + 1 + 1 := by omega
theorem n1_ne2 {n : Nat} : n + 1 ≠ n + 1 + 1 := by omega
theorem le1 {n : Nat} : n ≤ n + 1 := by omega
theorem le2 {n : Nat} : n ≤ n + 1 + 1 := by omega
theorem pick_any {a b z x y : Str} {pa pb pa' pb' pz tp pc px py : Pos} {kk : Nat} {scope : Scope} {cl : List (Str × Addr)} {pos spos : Pos} {ax c : Addr} {ol oc : Obj} {items : Array Value} {ps : List (Int × Value)} {oz : Int} {tz : Tok} {Q : Flow → Shared → Prop}
    (hh : A.handled = none) (hLe : env.locals = L) (F : Fr h₀ L s.heap m) (N : News h₀ L s.heap news)
    (hsw : swapsWith (.ListComp (.Name b pb') [⟨.Tuple [.Name a pa, .Name b pb] kk tp, .Name x px, [.Compare (.Name a pa') [.Eq] [.Name z pz] pc], 0⟩] scope pos) (some (.Name y py)) spos.line env = pure true)
    (hclos : closureFor scope env = pure cl) (hcell : ∀ z ∈ scope.names, z.2 ≠ .cell) (hkind : scope.kind = .function) (hke : env.scope.kind = .function)
    (hnames : ∀ z ∈ scope.names, z.2 = .local → scope.names.lookup z.1 = some .local) (ha : scope.names.lookup a = some .local) (hb : scope.names.lookup b = some .local) (hab : ¬ a = b)
    (hz : ∀ C, (compEnvC scope cl C env).kindOf z = some .cell) (hcl : cl.lookup z = some c) (hda : (a == ("__debug__" : Str)) = false) (hdb : (b == ("__debug__" : Str)) = false) (hdz : (z == ("__debug__" : Str)) = false) (hdx : (x == ("__debug__" : Str)) = false)
    (hx : env.kindOf x = some .local) (hv : m x = some (.ref ax)) (hy : env.kindOf y = some .local)
    (hma : (ax, ol) ∈ news) (hol : ol.cls = .type "list" ∧ ∃ n, ol.data = .seq items n) (hp : PairsAt s.heap items ps) (hmc : (c, oc) ∈ news) (hoc : oc.data = .cell (some (.int oz tz))) (hsz : ps.length ≤ 1000000)
    (h : ∀ D h' tk, Fr h₀ L h' (fun z => if z = y then some (.ref D) else m z) → News h₀ L h' ((D, lst (picks oz ps)) :: news) → (∀ p ∈ news, p.1 ≠ D) → (∀ T vs, s.heap.IsTuple T vs → T ≠ L → h'.IsTuple T vs) → Q .next { s with heap := h', toks := tk })
    (hs : ∀ v, foldedSetIterable (.Name x px) env v = pure v := by intro _; rfl) :
    wpAny (model prog w) A (exec (.Assign [.Name y py] (.ListComp (.Name b pb') [⟨.Tuple [.Name a pa, .Name b pb] kk tp, .Name x px, [.Compare (.Name a pa') [.Eq] [.Name z pz] pc], 0⟩] scope pos) spos) env) Q E s := by
  subst hLe
  rw [exec_Assign_Name_used _ _ _ _ hsw]
  refine wpAny_bind (wpAny_standAt (wpAny_bind ?_))
  show wpAny _ A (do let _ ← comprehension (.ListComp (.Name b pb') [⟨.Tuple [.Name a pa, .Name b pb] kk tp, .Name x px, [.Compare (.Name a pa') [.Eq] [.Name z pz] pc], 0⟩] scope pos) scope env _ (newList []) false (eval (.Name x px) env) (some (assign (.Name y py) env))) _ _ s
  refine wpAny_bind (wpAny_mono (wpAny_comprehension_free (use := some (assign (.Name y py) env)) (Q := fun _ s' => Q .next s') rfl hs hclos hkind hnames
    (wpAny_Name (wpAny_loadName_local hke hx F.ns hv ?_) hdx)) (fun _ s' hq => wpAny_pure (wpAny_pure hq)) fun _ _ e => e)
  have hl : s.heap.IsList ax items := by
    obtain ⟨h1, n, h2⟩ := hol
    exact ⟨ol, N.get hma, h1, n, h2⟩
  have hcl' : s.heap.IsCell c (some (.int oz tz)) := ⟨oc, N.get hmc, hoc⟩
  refine wpAny_pyIter_list hl ?_
  refine wpAny_newObj_type (wpAny_newFunctionEnv hcell (by intro y hy; simp at hy) (fun h₁ hns₁ hsb₁ => ?_) hkind)
  dsimp only at hns₁ hsb₁ ⊢
  rw [Heap.size_push, Heap.size_push] at hns₁ hsb₁ ⊢
  have up : ∀ b o, s.heap.get? b = some o → h₁.get? b = some o := fun b o e => hsb₁.extBut b o (lt_ne2 (Heap.lt_size e)) (Heap.get?_push_of_some _ (Heap.get?_push_of_some _ (Heap.get?_push_of_some _ e)))
  have none_of : ∀ x, s.heap.objs.size ≤ x → s.heap.get? x = none := fun x hx => Heap.get?_none_of_le hx
  have none₀ : ∀ x, s.heap.objs.size ≤ x → h₀.get? x = none := fun x hx => by
    cases e : h₀.get? x with
    | none => rfl
    | some o => have := F.keep x o e; rw [none_of x hx] at this; cases this
  have hLlt : env.locals < s.heap.objs.size := F.ns.lt
  have loop : codeAny (model prog w) A (.compLoop (.ListComp (.Name b pb') [⟨.Tuple [.Name a pa, .Name b pb] kk tp, .Name x px, [.Compare (.Name a pa') [.Eq] [.Name z pz] pc], 0⟩] scope pos) 0 (.ref s.heap.objs.size) (.ref (s.heap.objs.size + 1)) (compEnvC scope cl (s.heap.objs.size + 1 + 1) env)) (compPost (model prog w) A E (some (assign (.Name y py) env)) (fun _ s' => Q .next s') (.ref (s.heap.objs.size + 1)) (s.heap.objs.size + 1 + 1)) { s with heap := h₁, toks := s.toks + ([] : List (Str × Value)).length } := by
    refine pick_loop (base := s.heap) (ps := ps) (c := c) (s₁ := { s with heap := h₁, toks := s.toks + ([] : List (Str × Value)).length }) hh hkind ha hb hab (hz _) hcl hda hdb hdz (none_of _ (Nat.le_refl _)) (none_of _ le2) (none_of _ le1) n_ne2 n_ne1 (Ne.symm n1_ne2) hl hp hcl' hsz up ?_ hns₁ ?_ ?_
    · refine ⟨_, hsb₁.extBut _ _ n_ne2 (Heap.get?_push_of_some _ (Heap.get?_push_of_some _ (Heap.get?_push_size _ rfl))), rfl, rfl⟩
    · refine hsb₁.extBut _ _ n1_ne2 (Heap.get?_push_of_some _ ?_)
      have := Heap.get?_push_size (s.heap.push { cls := .type "list_iterator", data := .fields #[.ref ax, .int 0 0] }) (o := lst []) rfl
      rw [Heap.size_push] at this
      exact this
    · intro h₂ tk₂ m₂ kp₂ hn₂ hD₂
      show wpAny _ A (assign (.Name y py) env (.ref (s.heap.objs.size + 1))) _ _ _
      have F₂ : Fr h₀ env.locals h₂ m := F.keeps kp₂
      refine wpAny_assign_Name (wpAny_storeName_local hy F₂.ns (fun h₃ hn₃ hs₃ => ?_) (by rw [hke]; rfl))
      have F₃ := F₂.set hn₃ hs₃
      have hDL : s.heap.objs.size + 1 ≠ env.locals := (lt_ne1 hLlt).symm
      have hCL : s.heap.objs.size + 1 + 1 ≠ env.locals := (lt_ne2 hLlt).symm
      refine ⟨m₂, hn₂.sameBut hs₃ hCL, fun h₄ hs₄ => ?_⟩
      refine h (s.heap.objs.size + 1) h₄ _ (F₃.change hs₄ hCL (none₀ _ le2)) (fun p hp => ?_) (fun p hp => ?_) (fun T vs hT hTL => ?_)
      · rcases List.mem_cons.mp hp with rfl | hp
        · exact ⟨hs₄.extBut _ _ n1_ne2 (hs₃.extBut _ _ hDL hD₂), hDL, none₀ _ le1⟩
        · have hlt := Heap.lt_size (N p hp).1
          exact ⟨hs₄.extBut _ _ (lt_ne2 hlt) (hs₃.extBut _ _ (N p hp).2.1 (kp₂ _ _ (N p hp).1)), (N p hp).2⟩
      · have hlt := Heap.lt_size (N p hp).1
        exact lt_ne1 hlt
      · obtain ⟨o, e, r⟩ := hT
        have hlt := Heap.lt_size e
        exact ⟨o, hs₄.extBut _ _ (lt_ne2 hlt) (hs₃.extBut _ _ hTL (kp₂ _ _ e)), r⟩
  simp only [Heap.size_push]
  exact codeAny_compStart_list loop (wpAny_pyIter_listiter (it := s.heap.objs.size) (l := ax) (i := 0) ⟨_, hsb₁.extBut _ _ n_ne2 (Heap.get?_push_of_some _ (Heap.get?_push_of_some _ (Heap.get?_push_size _ rfl))), rfl, rfl⟩ loop)
end
end Mine

end PartK4
section PartI4
open PySem PySem.W PyProof.Rows PySem.Calls
set_option Elab.async false
namespace Mine
set_option maxRecDepth 100000
abbrev itObj (f0 f1 : Value) (d : Addr) (i n ep : Nat) (ok ov : Value) : Obj := { cls := .type "dict_itemiterator", dict := none, data := .fields #[f0, f1, .ref d, .int i 0, .int n 0, .int ep 0, ok, ov], slots := #[] }
abbrev pairObj (k v : Value) : Obj := { cls := .type "tuple", data := .seq #[k, v] }
/-- where an iterator over items stands -/
def ItSt (h : Heap) (it d S : Addr) (i n ep : Nat) : Prop := ∃ f0 f1 ok ov, h.get? it = some (itObj f0 f1 d i n ep ok ov) ∧ ((f0 = .none ∧ f1 = .bool false) ∨ ∃ (a : Addr) (f : Bool) (oa : Obj), f0 = rawInt a ∧ f1 = .bool f ∧ h.get? a = some oa ∧ a ≠ it ∧ a ≠ S)
theorem ItSt.keep {h h' : Heap} {it d S : Addr} {i n ep : Nat} (x : ItSt h it d S i n ep) (hk : ∀ b o, b ≠ S → h.get? b = some o → h'.get? b = some o) (hI : it ≠ S) : ItSt h' it d S i n ep := by
  obtain ⟨f0, f1, ok, ov, e, c⟩ := x
  refine ⟨f0, f1, ok, ov, hk _ _ hI e, ?_⟩
  rcases c with c | ⟨a, f, oa, c1, c2, c3, c4, c5⟩
  · exact .inl c
  · exact .inr ⟨a, f, oa, c1, c2, hk _ _ c5 c3, c4, c5⟩
section
variable {prog : Program} {w : World} {A : Around} {E : Value → Shared → Prop} {s : Shared}
theorem pair_out {it d S : Addr} {i n ep : Nat} {k v : Value} {P : Value → Shared → Prop} (hst : ItSt s.heap it d S i n ep) (hS : S < s.heap.objs.size)
    (h : ∀ h', ItSt h' it d S i n ep → h'.get? s.heap.objs.size = some (pairObj k v) → h'.objs.size = s.heap.objs.size + 1 → (∀ b o, b ≠ it → s.heap.get? b = some o → h'.get? b = some o) → P (.ref s.heap.objs.size) { s with heap := h' }) :
    wpAny (model prog w) A (Builtin.Dict_items.pairFromOwner (.ref it) 6 k v) P E s := by
  obtain ⟨hp, g, dr, tk, os⟩ := s
  obtain ⟨f0, f1, ok, ov, hit, c⟩ := hst
  have hil : it < hp.objs.size := Heap.lt_size hit
  unfold Builtin.Dict_items.pairFromOwner
  refine wpAny_bind (wpAny_newTuple ?_)
  have he : (hp.push (pairObj k v)).get? it = some (itObj f0 f1 d i n ep ok ov) := Heap.get?_push_of_some _ hit
  have ht : (hp.push (pairObj k v)).get? hp.objs.size = some (pairObj k v) := Heap.get?_push_size _ rfl
  have hz : (hp.push (pairObj k v)).objs.size = hp.objs.size + 1 := Heap.size_push ..
  have hk : ∀ b o, hp.get? b = some o → (hp.push (pairObj k v)).get? b = some o := fun b o e => Heap.get?_push_of_some _ e
  show wpAny _ _ (Builtin.Dict_items.ownedTupleIsFree (.ref it) >>= _) _ _ ⟨hp.push (pairObj k v), g, dr, tk, os⟩
  generalize hp.push (pairObj k v) = h₂ at he ht hz hk
  refine wpAny_bind ?_
  unfold Builtin.Dict_items.ownedTupleIsFree
  rcases c with ⟨rfl, rfl⟩ | ⟨a, f, oa, rfl, rfl, ha, hai, haS⟩
  · refine wpAny_bind (wpAny_field he rfl (x := .none) rfl (wpAny_pure ?_))
    simp only [if_true]
    refine wpAny_bind (wpAny_field he rfl (x := ok) rfl ?_)
    refine wpAny_bind (wpAny_field he rfl (x := ov) rfl ?_)
    refine wpAny_bind (wpAny_setField_rec he (by simp) fun h₃ he₃ hs₃ => ?_)
    replace hs₃ : Heap.SameBut it h₂ h₃ := hs₃
    replace he₃ : h₃.get? it = some (itObj .none (.bool false) d i n ep k ov) := he₃
    refine wpAny_bind (wpAny_setField_rec he₃ (by simp) fun h₄ he₄ hs₄ => ?_)
    replace hs₄ : Heap.SameBut it h₃ h₄ := hs₄
    replace he₄ : h₄.get? it = some (itObj .none (.bool false) d i n ep k v) := he₄
    refine wpAny_bind (wpAny_setField_rec he₄ (by simp) fun h₅ he₅ hs₅ => ?_)
    replace hs₅ : Heap.SameBut it h₄ h₅ := hs₅
    replace he₅ : h₅.get? it = some (itObj (rawInt hp.objs.size) (.bool false) d i n ep k v) := he₅
    refine wpAny_bind (wpAny_setField_rec he₅ (by simp) fun h₆ he₆ hs₆ => ?_)
    replace hs₆ : Heap.SameBut it h₅ h₆ := hs₆
    replace he₆ : h₆.get? it = some (itObj (rawInt hp.objs.size) (.bool false) d i n ep k v) := he₆
    have up : ∀ b o, b ≠ it → h₂.get? b = some o → h₆.get? b = some o := fun b o hb e => hs₆.extBut b o hb (hs₅.extBut b o hb (hs₄.extBut b o hb (hs₃.extBut b o hb e)))
    refine wpAny_bind (wpAny_letGo (wpAny_pure ?_))
    refine h h₆ ⟨_, _, _, _, he₆, .inr ⟨hp.objs.size, false, _, rfl, rfl, up _ _ (Nat.ne_of_gt hil) ht, Nat.ne_of_gt hil, Nat.ne_of_gt hS⟩⟩ (up _ _ (Nat.ne_of_gt hil) ht) ?_ fun b o hb e => up b o hb (hk b o e)
    show h₆.objs.size = hp.objs.size + 1
    rw [hs₆.1, hs₅.1, hs₄.1, hs₃.1, hz]
  · have ha₂ : h₂.get? a = some oa := hk a oa ha
    refine wpAny_bind (wpAny_field he rfl (x := rawInt a) rfl ?_)
    show wpAny _ _ (loadIfAlive ((a : Int).toNat) >>= _) _ _ _
    rw [Int.toNat_natCast]
    refine wpAny_bind (kdx_alive ha₂ ?_)
    simp only [Option.isNone_some, Bool.false_eq_true, if_false]
    refine wpAny_bind (wpAny_field he rfl (x := .bool f) rfl ?_)
    cases f with
    | true =>
      rw [if_neg (show ¬ ((Value.bool true != Value.bool true) = true) from Bool.false_ne_true)]
      refine wpAny_pure ?_
      simp only [Bool.false_eq_true, if_false]
      exact wpAny_pure (h h₂ ⟨_, _, _, _, he, .inr ⟨a, true, oa, rfl, rfl, ha₂, hai, haS⟩⟩ ht hz fun b o _ e => hk b o e)
    | false =>
      rw [if_pos (show (Value.bool false != Value.bool true) = true from rfl)]
      refine wpAny_bind (wpAny_setField_rec he (by simp) fun h₃ he₃ hs₃ => ?_)
      replace hs₃ : Heap.SameBut it h₂ h₃ := hs₃
      replace he₃ : h₃.get? it = some (itObj (rawInt a) (.bool true) d i n ep ok ov) := he₃
      refine wpAny_pure ?_
      simp only [Bool.false_eq_true, if_false]
      refine wpAny_pure (h h₃ ⟨_, _, _, _, he₃, .inr ⟨a, true, oa, rfl, rfl, hs₃.extBut _ _ hai ha₂, hai, haS⟩⟩ (hs₃.extBut _ _ (Nat.ne_of_gt hil) ht) ?_ fun b o hb e => hs₃.extBut b o hb (hk b o e))
      show h₃.objs.size = hp.objs.size + 1
      rw [hs₃.1, hz]
theorem nx_item {it d S : Addr} {i ep : Nat} {es : Array DictEntry} {od : Obj} {Q : Option Value → Shared → Prop} (hst : ItSt s.heap it d S i es.size ep) (hS : S < s.heap.objs.size) (hIS : it ≠ S) (hod : s.heap.get? d = some od) (hdd : od.data = .dict es ep) (hi : i < es.size)
    (hQ : ∀ h', ItSt h' it d S (i + 1) es.size ep → h'.get? s.heap.objs.size = some (pairObj es[i].key es[i].val) → h'.objs.size = s.heap.objs.size + 1 → (∀ b o, b ≠ it → s.heap.get? b = some o → h'.get? b = some o) → Q (some (.ref s.heap.objs.size)) { s with heap := h' }) :
    wpAny (model prog w) A (pyNext (.ref it)) Q E s := by
  obtain ⟨hp, g, dr, tk, os⟩ := s
  obtain ⟨f0, f1, ok, ov, hit, c⟩ := hst
  have hT : Shared.TypeIs ⟨hp, g, dr, tk, os⟩ (.ref it) "dict_itemiterator" := ⟨_, hit, rfl⟩
  unfold pyNext
  refine wpAny_bind (wpAny_attempt (wpAny_callSpecial?_slot (name := Str.ofString "__next__") hT PySem.F.slot_dict_itemiterator_next
    (wpAny_call_entry PySem.F.slot_dict_itemiterator_next hT PySem.F.entry_dict_itemiterator_next ?_ (PySem.F.args_dict_itemiterator_next_1 _))))
  refine wpAny_bind (wpAny_pure ?_)
  refine wpAny_bind ?_
  refine wpAny_bind ?_
  first | refine wpAny_bind (wpAny_typeNameOfWhole_itemiter hT (wpAny_pure ?_)) | refine wpAny_bind (wpAny_typeNameOf_itemiter hT (wpAny_pure ?_))
  refine wpAny_bind (wpAny_fieldsOf hit rfl ?_)
  have hown : Builtin.Dict_items.ownsTuple "dict_itemiterator" = true := by decide
  simp only [hown, if_true]
  show wpAny _ _ (if (Value.ref d == Value.none) = true then _ else _) _ _ _
  rw [if_neg (show ¬ ((Value.ref d == Value.none) = true) from Bool.false_ne_true)]
  refine wpAny_bind (wpAny_pure ?_)
  refine wpAny_bind (wpAny_dictEntries hod hdd ?_)
  rw [if_neg (by simp)]
  refine wpAny_bind (wpAny_pure ?_)
  refine wpAny_bind (wpAny_dictEpoch hod hdd ?_)
  rw [if_neg (by simp)]
  refine wpAny_pure ?_
  simp only [show ¬ ((i : Int) < 0) from by omega, if_false, Int.toNat_natCast, Array.getElem?_eq_getElem hi]
  refine wpAny_bind ?_
  first | refine wpAny_bind (wpAny_typeNameOfWhole_itemiter hT (wpAny_pure ?_)) | refine wpAny_bind (wpAny_typeNameOf_itemiter hT (wpAny_pure ?_))
  refine wpAny_bind (wpAny_isOneOf_itemiter hT ?_)
  show wpAny _ _ (setField (.ref it) 3 (rawInt ((i : Int) + 1)) >>= _) _ _ ⟨hp, g, dr, tk, os⟩
  refine wpAny_bind (wpAny_setField_rec hit (by simp) fun h₁ he₁ hs₁ => ?_)
  replace hs₁ : Heap.SameBut it hp h₁ := hs₁
  replace he₁ : h₁.get? it = some (itObj f0 f1 d (i + 1) es.size ep ok ov) := by
    have e : ((i + 1 : Nat) : Int) = (i : Int) + 1 := by omega
    unfold itObj; rw [e]; simpa [rawInt] using he₁
  have hT₁ : Shared.TypeIs ⟨h₁, g, dr, tk, os⟩ (.ref it) "dict_itemiterator" := ⟨_, he₁, rfl⟩
  refine wpAny_bind (wpAny_holding ?_)
  refine wpAny_bind (wpAny_isOneOf_itemiter hT₁ ?_)
  refine wpAny_bind (wpAny_isOneOf_itemiter hT₁ ?_)
  show wpAny _ _ (Builtin.Dict_items.pairFromOwner (.ref it) 6 es[i].key es[i].val) _ _ ⟨h₁, g, dr, tk, os⟩
  have hz₁ : h₁.objs.size = hp.objs.size := hs₁.1
  have hst₁ : ItSt h₁ it d S (i + 1) es.size ep := by
    refine ⟨f0, f1, ok, ov, he₁, ?_⟩
    rcases c with c | ⟨a, f, oa, c1, c2, c3, c4, c5⟩
    · exact .inl c
    · exact .inr ⟨a, f, oa, c1, c2, hs₁.extBut _ _ c4 c3, c4, c5⟩
  refine pair_out (s := ⟨h₁, g, dr, tk, os⟩) hst₁ (by show S < h₁.objs.size; rw [hz₁]; exact hS) fun h' st' ht' hz' hk' => ?_
  dsimp only at ht' hz' hk' ⊢
  rw [hz₁] at ht' hz' ⊢
  exact wpAny_pure ⟨_, rfl, wpAny_pure (hQ h' st' ht' hz' fun b o hb e => hk' b o hb (hs₁.extBut b o hb e))⟩
theorem nx_end {it d S : Addr} {ep : Nat} {es : Array DictEntry} {od : Obj} {Q : Option Value → Shared → Prop} (hh : A.handled = none) (hst : ItSt s.heap it d S es.size es.size ep) (hod : s.heap.get? d = some od) (hdd : od.data = .dict es ep)
    (hQ : ∀ h', Heap.ExtBut it s.heap h' → Q none { s with heap := h' }) : wpAny (model prog w) A (pyNext (.ref it)) Q E s := by
  obtain ⟨f0, f1, ok, ov, hit, c⟩ := hst
  have hT : s.TypeIs (.ref it) "dict_itemiterator" := ⟨_, hit, rfl⟩
  unfold pyNext
  refine wpAny_bind (wpAny_attempt (wpAny_callSpecial?_slot (name := Str.ofString "__next__") hT PySem.F.slot_dict_itemiterator_next
    (wpAny_call_entry PySem.F.slot_dict_itemiterator_next hT PySem.F.entry_dict_itemiterator_next ?_ (PySem.F.args_dict_itemiterator_next_1 _))))
  refine wpAny_bind (wpAny_pure ?_)
  refine wpAny_bind ?_
  refine wpAny_bind ?_
  first | refine wpAny_bind (wpAny_typeNameOfWhole_itemiter hT (wpAny_pure ?_)) | refine wpAny_bind (wpAny_typeNameOf_itemiter hT (wpAny_pure ?_))
  refine wpAny_bind (wpAny_fieldsOf hit rfl ?_)
  have hown : Builtin.Dict_items.ownsTuple "dict_itemiterator" = true := by decide
  simp only [hown, if_true]
  show wpAny _ _ (if (Value.ref d == Value.none) = true then _ else _) _ _ s
  rw [if_neg (show ¬ ((Value.ref d == Value.none) = true) from Bool.false_ne_true)]
  refine wpAny_bind (wpAny_pure ?_)
  refine wpAny_bind (wpAny_dictEntries hod hdd ?_)
  rw [if_neg (by simp)]
  refine wpAny_bind (wpAny_pure ?_)
  refine wpAny_bind (wpAny_dictEpoch hod hdd ?_)
  rw [if_neg (by simp)]
  refine wpAny_pure ?_
  simp only [show ¬ ((es.size : Int) < 0) from by omega, if_false, Int.toNat_natCast, Array.getElem?_eq_none (Nat.le_refl es.size)]
  refine wpAny_bind ?_
  first | refine wpAny_bind (wpAny_typeNameOfWhole_itemiter hT (wpAny_pure ?_)) | refine wpAny_bind (wpAny_typeNameOf_itemiter hT (wpAny_pure ?_))
  show wpAny _ _ (setField (.ref it) 2 .none >>= _) _ _ s
  refine wpAny_bind (wpAny_setField hit rfl (by simp) ?_)
  show wpAny _ _ (newExc (.type "StopIteration") [] >>= _) _ _ _
  refine wpAny_bind ?_
  simp only [newExc, newTuple]
  refine wpAny_bind (wpAny_newObj_type ?_ (by size_fits))
  refine wpAny_bind (m := firstArgMember _ _) (wpAny_of_eq (a := Value.none) (by first | rfl | (simp only [firstArgMember]; rfl)) ?_)
  refine wpAny_newObj_type ?_ (by size_fits)
  simp only [raiseNew]
  refine wpAny_bind (wpAny_handled ?_)
  rw [show A.in1.handled = none from hh]
  refine wpAny_bind (wpAny_pure (wpAny_throw ?_))
  refine wpAny_bind (wpAny_isInstance (T := "StopIteration") (b := true) ⟨_, Heap.get?_push_size _ rfl, rfl⟩ isSubtype_stop ?_)
  exact wpAny_pure (hQ _ (((Heap.SameBut.update ..).extBut.push _).push _))
end
end Mine

end PartI4
section PartTop04
open PySem PySem.W PyProof.Rows
set_option Elab.async false
namespace Mine
set_option maxRecDepth 100000 in
set_option maxHeartbeats 8000000 in
open_top hd for PySem.Challenge.rw_dn0015_04
end Mine

end PartTop04
section PartB4
open PySem PySem.W PyProof.Rows PySem.Calls
set_option Elab.async false
namespace Mine
set_option maxRecDepth 100000
theorem dn_kind : builtinKind "dict.__new__" = some .builtinFn := by decide +kernel
theorem dn_split : splitId "dict.__new__" = some ("dict", "__new__") := by decide +kernel
theorem dn_entry : entryFor table "dict.__new__" = some Builtin.«dict.__new__» := entryFor_of_tree (by kernel_rfl)
theorem dn_plain : plainId "dict.__new__" = true := by decide +kernel
theorem dn_sig : Manifest.signature? "dict.__new__" = some ⟨.any, "dict", "dict", .cls, [⟨"args", .varPos, false⟩, ⟨"kwargs", .varKw, false⟩]⟩ := by kernel_rfl
theorem di_entry : entryFor table "dict.__init__" = some Builtin.«dict.__init__» := entryFor_of_tree (by kernel_rfl)
theorem di_plain : plainId "dict.__init__" = true := by decide +kernel
theorem di_kind : builtinKind "dict.__init__" = some .slot := by decide +kernel
theorem di_split : splitId "dict.__init__" = some ("dict", "__init__") := by decide +kernel
theorem di_args (a : Value) : argsOk "dict.__init__" ⟨[a], []⟩ := by unfold argsOk; kernel_rfl
theorem di_bind (self : Value) : bindSpecial (.builtin "dict.__init__") self = pure (.builtin "dict.__init__", [self]) :=
  (Slot.of (T := "dict") (name := "__init__") (owner := "dict") (n := "__init__") (by rw [typeLookup_type, builtinLookup_eq_fast]; kernel_rfl) (by decide +kernel) (by decide +kernel) (by decide +kernel)
    (.inl (by decide +kernel)) (by rw [isSubtype_type]; kernel_rfl)).bind self
/-- a _QByteMap's object -/
abbrev mapObj (es : Array DictEntry) (n : Nat) (d : Addr) : Obj := { cls := .ref 31, dict := some d, data := .dict es n }
structure Cls (M : Model) (h : Heap) : Prop where
  obj : ∃ oc od cd sl, h.get? 31 = some ⟨oc, od, .cls cd, sl⟩ ∧ cd.abstract = false ∧ cd.hasDel = false ∧ cd.mro = [.ref 31, .type "dict", .type "object"]
  made : Looks M h (Bind.madeBy (.ref 31)) (some "dict.__new__")
  base : Looks M h (Bind.staticBase (.ref 31)) (.ref 31)
  self : Looks M h (isSubtype (.ref 31) (.ref 31)) true
  top : Looks M h (isSubtype (.ref 31) (.type "dict")) true
  call : Looks M h (specialOf (.ref 31) "__call__") (some (.builtin "type.__call__"))
  typ : Looks M h (isInstance (.ref 31) (.type "type")) true
  isT : Looks M h (isType (.ref 31)) true
  noOrd : Looks M h (isSubtype (.ref 31) (.type "collections.OrderedDict")) false
  init : Looks M h (typeLookup (.ref 31) "__init__") (some (.builtin "dict.__init__"))
  obj0 : Looks M h (isSubtype (.ref 31) (.type "object")) true
  noDeq : Looks M h (isSubtype (.ref 31) (.type "collections.deque")) false
  getI : Looks M h (typeLookup (.ref 31) "__getitem__") (some (.builtin "dict.__getitem__"))
  setI : Looks M h (typeLookup (.ref 31) "__setitem__") (some (.builtin "dict.__setitem__"))
  miss : Looks M h (typeLookup (.ref 31) "__missing__") (some (.ref 28))
theorem cls_of {P : Params} {M : Model} {h : Heap} (X : (hd.heap_39 P).In h) : Cls M h := by
  have ho := X 31 _ rfl
  have hm : Looks M h (mroOf (.ref 31)) [.ref 31, .type "dict", .type "object"] := (looks_clsIn (K := hd.heap_39 P) X (C := 31) rfl).andThen .now
  have made : Looks M h (Bind.madeBy (.ref 31)) (some "dict.__new__") := by
    intro A Q E s k q
    unfold Bind.madeBy
    refine wpAny_bind (hm A _ E s k ?_)
    rw [List.forIn_cons]
    refine wpAny_bind (wpAny_bind (wpAny_bind (wpAny_bind (wpAny_loadPart (k _ _ ho) (wpAny_pure ?_)))))
    exact wpAny_pure (wpAny_pure (wpAny_pure q))
  refine ⟨⟨_, _, _, _, ho, rfl, rfl, rfl⟩, made, ?_, looks_subIn (K := hd.heap_39 P) X rfl, looks_subIn (K := hd.heap_39 P) X rfl, looks_specialIn (K := hd.heap_39 P) X rfl, looks_instIn (K := hd.heap_39 P) X rfl, ?_, looks_subIn (K := hd.heap_39 P) X rfl, looks_findIn (K := hd.heap_39 P) X rfl, looks_subIn (K := hd.heap_39 P) X rfl, looks_subIn (K := hd.heap_39 P) X rfl, looks_findIn (K := hd.heap_39 P) X rfl, looks_findIn (K := hd.heap_39 P) X rfl, looks_findIn (K := hd.heap_39 P) X rfl⟩
  · intro A Q E s k q
    unfold Bind.staticBase
    refine wpAny_bind (hm A _ E s k ?_)
    rw [List.forIn_cons]
    exact wpAny_bind (wpAny_bind (wpAny_bind (made A _ E s k (wpAny_pure (wpAny_pure (wpAny_pure q))))))
  · intro A Q E s k q
    exact wpAny_bind (wpAny_loadPart (k _ _ ho) (wpAny_pure q))
section
variable {prog : Program} {w : World} {A : Around} {R : Result → Shared → Prop} {h : Heap} {g : Array GenState} {d : Drawn} {t : Nat} {os : OsState}
theorem dn_args {v : Value} : Bind.checkArgs "dict.__new__" ⟨.any, "dict", "dict", .cls, [⟨"args", .varPos, false⟩, ⟨"kwargs", .varKw, false⟩]⟩ ⟨[v], []⟩ = pure () := by kernel_rfl
theorem new_Q (Y : Cls (model prog w) h) (hq : R (.ok (.ret (.ref (h.objs.size + 1)))) ⟨(h.push emptyDict).push (mapObj #[] 0 h.objs.size), g, d, t, os⟩) :
    codeAny (model prog w) A (.call (.builtin "dict.__new__") ⟨[.ref 31], []⟩) R ⟨h, g, d, t, os⟩ := by
  obtain ⟨⟨oc, od, cd, sl, hC, e1, e2, e4⟩, made, base, self, top, call, typ, isT, noOrd, init, obj0, noDeq, getI, setI, miss⟩ := Y
  have hm : Looks (model prog w) h (mroOf (.ref 31)) cd.mro := ((Looks.ld (part := none) hC).andThen .now).andThen .now
  refine codeAny_call_builtin_code (plainId_quiet dn_plain _) ?_
  simp only [checkBuiltinCall, dn_kind, dn_split, dn_sig]
  have here : Looks (model prog w) h (Bind.madeHere "dict.__new__" (.ref 31)) () := base.andThen (made.andThen (Looks.of_pure (by simp only [Option.map_some, bne_self_eq_false, Bool.false_eq_true, if_false])))
  rw [dn_args]
  repeat (first | simp only [bne_self_eq_false, Bool.false_eq_true, if_false, beq_self_eq_true, if_true, Bool.not_true] | lk)
  refine codeAny_builtin dn_entry ?_
  unfold Builtin.«dict.__new__»
  refine wpAny_bind (isT.at ?_)
  refine KFB.if_not rfl ?_
  refine wpAny_bind (top.at ?_)
  refine KFB.if_not rfl ?_
  refine wpAny_bind (hm.at ?_)
  rw [e4]
  refine KFB.if_not (by decide) ?_
  refine wpAny_bind (wpAny_alloc (wpAny_bind ?_))
  show wpAny _ _ (newObjAsIs _ _ _) _ _ _
  unfold newObjAsIs classHasDel
  refine wpAny_bind (wpAny_alloc (wpAny_bind (wpAny_bind (wpAny_load (Heap.get?_push_of_some _ (Heap.get?_push_of_some _ hC)) (wpAny_pure ?_)))))
  rw [e2]
  refine wpAny_pure (wpAny_pure ?_)
  show R _ _
  rw [Heap.size_push]
  exact hq
theorem Cls.keeps {M : Model} {h h' : Heap} (Y : Cls M h) (k : ∀ b o, h.get? b = some o → h'.get? b = some o) : Cls M h' := by
  obtain ⟨⟨oc, od, cd, sl, hC, e1, e2, e4⟩, made, base, self, top, call, typ, isT, noOrd, init, obj0, noDeq, getI, setI, miss⟩ := Y
  exact ⟨⟨oc, od, cd, sl, k _ _ hC, e1, e2, e4⟩, made.keeps k, base.keeps k, self.keeps k, top.keeps k, call.keeps k, typ.keeps k, isT.keeps k, noOrd.keeps k, init.keeps k, obj0.keeps k, noDeq.keeps k, getI.keeps k, setI.keeps k, miss.keeps k⟩
theorem map_type {x dx : Addr} {es : Array DictEntry} {n : Nat} {s : Shared} (ho : s.heap.get? x = some (mapObj es n dx)) : Looks (model prog w) s.heap (typeOf (.ref x)) (.ref 31) := (Looks.ld ho).andThen .now
theorem not_ord {x dx : Addr} {es : Array DictEntry} {n : Nat} {s : Shared} {name : String} {rest : List Value} {Q : Unit → Shared → Prop} {E : Value → Shared → Prop} (ho : s.heap.get? x = some (mapObj es n dx)) (Y : Cls (model prog w) s.heap) (h : Q () s) :
    wpAny (model prog w) A (Builtin.Dict.notOrdered name ⟨.ref x :: rest, []⟩) Q E s := by
  unfold Builtin.Dict.notOrdered
  split
  · refine wpAny_bind ((map_type ho).at ?_)
    refine KFB.if_so (by rfl) ?_
    have i : Looks (model prog w) s.heap (isInstance (.ref x) (.type "collections.OrderedDict")) false := (map_type ho).andThen Y.noOrd
    refine wpAny_bind (i.at ?_)
    exact wpAny_pure h
  · exact wpAny_pure h
theorem di_run {x dx : Addr} {s : Shared} {P : PySem.Fin → Shared → Prop} {E : Value → Shared → Prop} (ho : s.heap.get? x = some (mapObj #[] 0 dx)) (Y : Cls (model prog w) s.heap) (h : P (.done (.ret .none)) s) : wpAny (model prog w) A (Builtin.«dict.__init__» ⟨[.ref x], []⟩) P E s := by
  unfold Builtin.«dict.__init__»
  refine wpAny_bind (m := Builtin.Dict.selfAndRest _ _) ?_
  unfold Builtin.Dict.selfAndRest
  refine wpAny_bind (not_ord ho Y ?_)
  refine wpAny_bind (wpAny_pure (wpAny_pure ?_))
  exact wpAny_bind (wpAny_pure (wpAny_pure h))
theorem make_Q (Y : Cls (model prog w) h) (hq : R (.ok (.ret (.ref (h.objs.size + 1)))) ⟨(h.push emptyDict).push (mapObj #[] 0 h.objs.size), g, d, t, os⟩) :
    codeAny (model prog w) A (.call (.ref 31) ⟨[], []⟩) R ⟨h, g, d, t, os⟩ := by
  have Y' := Y
  obtain ⟨⟨oc, od, cd, sl, hC, e1, e2, e4⟩, made, base, self, top, call, typ, isT, noOrd, init, obj0, noDeq, getI, setI, miss⟩ := Y
  refine codeAny_of_tree ?_
  show wpAny _ _ (callAny (.ref 31) _) _ _ _
  refine nd_load hC ?_
  show wpAny _ _ (callAny.viaDunder (.ref 31) _) _ _ _
  unfold callAny.viaDunder
  refine wpAny_bind (call.at ?_)
  dsimp only
  rw [tc_bind]
  refine wpAny_bind (wpAny_pure (wpAny_bind (wpAny_pure ?_)))
  refine wpAny_pure (a := Fin.again (.call (.builtin "type.__call__") ⟨[.ref 31], []⟩)) (And.intro rfl ?_)
  refine codeAny_call_builtin_at (Code.quiet_builtin _ (by decide +kernel)) entry_typeCall (check_slot tc_kind tc_split typ (tc_args _ _ _) ?_)
  unfold Builtin.«type.__call__»
  have hm : Looks (model prog w) h (mroOf (.ref 31)) cd.mro := ((Looks.ld (part := none) hC).andThen .now).andThen .now
  have e5 : cd.mro.isEmpty = false := by rw [e4]; rfl
  repeat (first | simp only [e5, Bool.false_eq_true, if_false] | with_reducible refine wpAny_call ?_ | lk)
  refine new_Q Y' ?_
  have k : ∀ b o, h.get? b = some o → ((h.push emptyDict).push (mapObj #[] 0 h.objs.size)).get? b = some o := fun b o e => Heap.get?_push_of_some _ (Heap.get?_push_of_some _ e)
  have hx : ((h.push emptyDict).push (mapObj #[] 0 h.objs.size)).get? (h.objs.size + 1) = some (mapObj #[] 0 h.objs.size) := by heap_get
  have t1 : Looks (model prog w) ((h.push emptyDict).push (mapObj #[] 0 h.objs.size)) (typeOf (.ref (h.objs.size + 1))) (.ref 31) := (Looks.ld hx).andThen .now
  have s1 := self.keeps k
  have i1 := init.keeps k
  have b1 : Looks (model prog w) ((h.push emptyDict).push (mapObj #[] 0 h.objs.size)) (bindSpecial (.builtin "dict.__init__") (.ref (h.objs.size + 1))) (.builtin "dict.__init__", [.ref (h.objs.size + 1)]) := Looks.of_pure (di_bind _)
  unfold isInstance callSpecial? specialOf
  repeat (first | with_reducible refine wpAny_call ?_ | lk)
  have t2 : Looks (model prog w) ((h.push emptyDict).push (mapObj #[] 0 h.objs.size)) (isInstance (.ref (h.objs.size + 1)) (.type "dict")) true := t1.andThen (top.keeps k)
  refine codeAny_call_builtin di_plain di_entry (@check_slot (model prog w) _ _ _ "dict.__init__" "dict" "__init__" (.ref (h.objs.size + 1)) [] [] _ di_kind di_split t2 (di_args _) ?_)
  refine di_run hx (Y'.keeps k) ?_
  exact wpAny_pure (wpAny_pure hq)
end
end Mine

end PartB4
section PartC4
open PySem PySem.W PyProof.Rows PySem.Calls
set_option Elab.async false
namespace Mine
set_option maxRecDepth 100000
section
variable {prog : Program} {w : World} {A : Around} {E : Value → Shared → Prop} {s : Shared} {h₀ : Heap} {L x dx : Addr} {m : Str → Option Value} {news : List (Addr × Obj)} {es : Array DictEntry} {n : Nat}
theorem call_map {P : Params} {Q : Value → Shared → Prop} (F : Fr h₀ L s.heap m) (N : News h₀ L s.heap news) (X : (hd.heap_39 P).In h₀)
    (h : ∀ x dx h', Fr h₀ L h' m → News h₀ L h' ((x, mapObj #[] 0 dx) :: (dx, emptyDict) :: news) → (∀ p ∈ news, p.1 < dx) → dx < x → Q (.ref x) { s with heap := h' }) : wpAny (model prog w) A (call (.ref 31) [] []) Q E s := by
  obtain ⟨hh, g, d, t, os⟩ := s
  have N' := (N.push F emptyDict).push (F.push _) (mapObj #[] 0 hh.objs.size)
  rw [Heap.size_push] at N'
  exact wpAny_call (make_Q (cls_of (X.keeps F.keep)) (h _ hh.objs.size _ ((F.push _).push _) N' (fun p hp => Heap.lt_size (N p hp).1) (Nat.lt_succ_self _)))
theorem map_inst (ho : s.heap.get? x = some (mapObj es n dx)) (Y : Cls (model prog w) s.heap) : Looks (model prog w) s.heap (isInstance (.ref x) (.type "dict")) true := (map_type ho).andThen Y.top
theorem check_meth {M : Model} {i owner n' : String} {self : Value} {rest : List Value} {Q : Unit → Shared → Prop}
    (hk : builtinKind i = some .method) (hs : splitId i = some (owner, n')) (hi : Looks M s.heap (isInstance self (.type owner)) true) (ha : argsOk i ⟨self :: rest, []⟩) (q : Q () s) :
    wpAny M A (checkBuiltinCall i ⟨self :: rest, []⟩) Q E s := by
  simp only [checkBuiltinCall, hk, hs]
  refine wpAny_bind (hi.here ?_)
  simp only [Bool.not_true, Bool.false_eq_true, if_false]
  cases hsig : Manifest.signature? i with
  | none => exact wpAny_pure q
  | some sig =>
    simp only [argsOk, hsig] at ha
    have h2 : Bind.checkArgs i sig ⟨self :: rest, []⟩ = pure () := ha
    show wpAny M A (Bind.checkArgs i sig ⟨self :: rest, []⟩) Q E s
    rw [h2]; exact wpAny_pure q
theorem map_callM {id n' : String} {B : Builtin} {args : List Value} {Q : Value → Shared → Prop} (plain : plainId id = true) (entry : entryFor table id = some B) (kind : builtinKind id = some .method) (split : splitId id = some ("dict", n')) (ok : argsOk id ⟨.ref x :: args, []⟩)
    (ho : s.heap.get? x = some (mapObj es n dx)) (Y : Cls (model prog w) s.heap) (tree : wpAny (model prog w) A.in1 (B ⟨.ref x :: args, []⟩) (fun fin s' => ∃ v, fin = .done (.ret v) ∧ Q v s') E s) : wpAny (model prog w) A (call (.builtin id) (.ref x :: args)) Q E s := by
  refine wpAny_call (codeAny_call_builtin plain entry (check_meth kind split (map_inst ho Y) ok ?_))
  exact wpAny_mono tree (fun fin s' h' => by obtain ⟨v, rfl, hv⟩ := h'; exact hv) fun _ _ z => z
theorem map_call {id n' : String} {B : Builtin} {args : List Value} {Q : Value → Shared → Prop} (plain : plainId id = true) (entry : entryFor table id = some B) (kind : builtinKind id = some .slot) (split : splitId id = some ("dict", n')) (ok : argsOk id ⟨.ref x :: args, []⟩)
    (ho : s.heap.get? x = some (mapObj es n dx)) (Y : Cls (model prog w) s.heap) (tree : wpAny (model prog w) A.in1 (B ⟨.ref x :: args, []⟩) (fun fin s' => ∃ v, fin = .done (.ret v) ∧ Q v s') E s) : wpAny (model prog w) A (call (.builtin id) (.ref x :: args)) Q E s := by
  refine wpAny_call (codeAny_call_builtin plain entry (check_slot kind split (map_inst ho Y) ok ?_))
  exact wpAny_mono tree (fun fin s' h' => by obtain ⟨v, rfl, hv⟩ := h'; exact hv) fun _ _ z => z
theorem map_seqKey {k : Value} {name : Str} {Q : Value → Shared → Prop} (ho : s.heap.get? x = some (mapObj es n dx)) (Y : Cls (model prog w) s.heap) (h : Q k s) : wpAny (model prog w) A (sequenceKey (.ref x) k name) Q E s := by
  unfold sequenceKey
  refine wpAny_bind ((map_type ho).at ?_)
  dsimp only
  refine wpAny_bind (m := seqItemTypes.anyM fun n => isSubtype (.ref 31) (.type n)) ?_
  show wpAny _ _ (isSubtype (.ref 31) (.type "collections.deque") >>= fun b => _) _ _ _
  refine wpAny_bind (Y.noDeq.at ?_)
  exact wpAny_pure (wpAny_pure h)
theorem set_absent {k : Int} {t : Tok} {v : Value} {Q : Unit → Shared → Prop} (ho : s.heap.get? x = some (mapObj es n dx)) (hk : IntKeys es) (hno : es.findIdx? (fun e => Value.isInt k e.key) = none) (hz : es.size ≤ 1000000)
    (h : Q () { s with heap := s.heap.update x (Obj.mapDictKeys (·.push ⟨hashInt k, .int k t, v⟩)), toks := s.toks + 1 }) : wpAny (model prog w) A (dictSet x (.int k t) v) Q E s := by
  unfold dictSet
  refine wpAny_holding (wpAny_bind (wpAny_pyHash_int ?_))
  unfold dictSetHashed
  refine wpAny_holding (wpAny_bind (wpAny_dictFind_int (o := mapObj es n dx) (es := es) (ep := n) ho rfl hk ?_))
  rw [hno]
  refine wpAny_bind (wpAny_rule ?_)
  exact wpAny_updateDictKeys (o := mapObj es n dx) (es := es) (ep := n) ho rfl h (by rw [sizeLine_eq]; omega) (by simp)
theorem map_set {k : Int} {t : Tok} {v : Value} {Q : Unit → Shared → Prop} (ho : s.heap.get? x = some (mapObj es n dx)) (Y : Cls (model prog w) s.heap) (hk : IntKeys es) (hno : es.findIdx? (fun e => Value.isInt k e.key) = none) (hz : es.size ≤ 1000000)
    (h : Q () { s with heap := s.heap.update x (Obj.mapDictKeys (·.push ⟨hashInt k, .int k t, v⟩)), toks := s.toks + 1 }) : wpAny (model prog w) A (setItem (.ref x) (.int k t) v) Q E s := by
  unfold setItem
  refine wpAny_holding ?_
  refine wpAny_bind (map_seqKey ho Y ?_)
  refine wpAny_bind (m := callSpecial? _ _ _) ?_
  unfold callSpecial? specialOf
  refine wpAny_bind (wpAny_bind ((map_type ho).at (Y.setI.at ?_)))
  refine wpAny_holding ?_
  rw [slot_dict_setitem.bind]
  refine wpAny_bind (wpAny_pure (wpAny_bind ?_))
  refine map_call (n' := "__setitem__") (by decide +kernel) entry_dict_setitem (by decide +kernel) (by decide +kernel) (args_dict_setitem _ _ _) ho Y ?_
  show wpAny _ _ (Builtin.Dict.notOrdered "__setitem__" ⟨[.ref x, .int k t, v], []⟩ >>= _) _ _ s
  refine wpAny_bind (not_ord ho Y ?_)
  show wpAny _ _ (dictSet x (.int k t) v >>= _) _ _ s
  exact wpAny_bind (set_absent ho hk hno hz (wpAny_pure ⟨.none, rfl, wpAny_pure (wpAny_pure h)⟩))
theorem map_get_some {k : Int} {t : Tok} {v : Value} {i : Nat} {Q : Value → Shared → Prop} (ho : s.heap.get? x = some (mapObj es n dx)) (Y : Cls (model prog w) s.heap) (hk : IntKeys es) (hf : es.findIdx? (fun e => Value.isInt k e.key) = some i) (hv : es[i]?.map (·.val) = some v)
    (h : Q v { s with toks := s.toks + 1 }) : wpAny (model prog w) A (getItem (.ref x) (.int k t)) Q E s := by
  unfold getItem
  refine wpAny_holding ?_
  refine wpAny_bind (map_seqKey ho Y ?_)
  refine wpAny_bind (m := callSpecial? _ _ _) ?_
  unfold callSpecial? specialOf
  refine wpAny_bind (wpAny_bind ((map_type ho).at (Y.getI.at ?_)))
  refine wpAny_holding ?_
  rw [slot_dict_getitem.bind]
  refine wpAny_bind (wpAny_pure (wpAny_bind ?_))
  refine map_callM (n' := "__getitem__") (by decide +kernel) entry_dict_getitem (by decide +kernel) (by decide +kernel) (args_dict_getitem _ _) ho Y ?_
  show wpAny _ _ (dictGet x (.int k t) >>= _) _ _ s
  refine wpAny_bind ?_
  unfold dictGet
  refine wpAny_holding (wpAny_bind (wpAny_pyHash_int ?_))
  refine wpAny_bind (wpAny_dictFind_int (o := mapObj es n dx) (es := es) (ep := n) ho rfl hk ?_)
  rw [hf]
  refine wpAny_bind (wpAny_dictEntries (o := mapObj es n dx) (es := es) (ep := n) ho rfl (wpAny_pure ?_))
  rw [hv]
  exact wpAny_pure ⟨v, rfl, wpAny_pure (wpAny_pure h)⟩
theorem map_get_miss {P : Params} {k : Int} {t : Tok} {Q : Value → Shared → Prop} (ho : s.heap.get? x = some (mapObj es n dx)) (Y : Cls (model prog w) s.heap) (X : (hd.heap_39 P).In s.heap) (hk : IntKeys es) (hf : es.findIdx? (fun e => Value.isInt k e.key) = none)
    (h : wpAny (model prog w) A.in1 (call (.ref 28) [.ref x, .int k t]) Q E { s with toks := s.toks + 1 }) : wpAny (model prog w) A (getItem (.ref x) (.int k t)) Q E s := by
  unfold getItem
  refine wpAny_holding ?_
  refine wpAny_bind (map_seqKey ho Y ?_)
  refine wpAny_bind (m := callSpecial? _ _ _) ?_
  unfold callSpecial? specialOf
  refine wpAny_bind (wpAny_bind ((map_type ho).at (Y.getI.at ?_)))
  refine wpAny_holding ?_
  rw [slot_dict_getitem.bind]
  refine wpAny_bind (wpAny_pure (wpAny_bind ?_))
  refine map_callM (n' := "__getitem__") (by decide +kernel) entry_dict_getitem (by decide +kernel) (by decide +kernel) (args_dict_getitem _ _) ho Y ?_
  show wpAny _ _ (dictGet x (.int k t) >>= _) _ _ s
  refine wpAny_bind ?_
  unfold dictGet
  refine wpAny_holding (wpAny_bind (wpAny_pyHash_int ?_))
  refine wpAny_bind (wpAny_dictFind_int (o := mapObj es n dx) (es := es) (ep := n) ho rfl hk ?_)
  rw [hf]
  refine wpAny_pure ?_
  refine wpAny_bind (wpAny_missed_int ?_)
  refine wpAny_bind ((map_type (s := { s with toks := s.toks + 1 }) ho).at ?_)
  refine KFB.if_so (by rfl) ?_
  refine wpAny_bind (m := callSpecial? _ _ _) ?_
  unfold callSpecial? specialOf
  refine wpAny_bind (wpAny_bind ((map_type (s := { s with toks := s.toks + 1 }) ho).at (Y.miss.at ?_)))
  refine wpAny_holding ?_
  have hb : Looks (model prog w) s.heap (bindSpecial (.ref 28) (.ref x)) (.ref 28, [.ref x]) := bind_fn (K := hd.heap_39 P) X (.ref x) rfl
  refine wpAny_bind (hb.at (wpAny_bind ?_))
  refine wpAny_mono h (fun v s' hv => ?_) fun _ _ z => z
  refine wpAny_pure ?_
  refine wpAny_bind (wpAny_rule ?_)
  exact wpAny_pure ⟨v, rfl, wpAny_pure (wpAny_pure hv)⟩
end
end Mine

end PartC4
section PartG4
open PySem PySem.W PyProof.Rows PySem.Calls
set_option Elab.async false
set_option linter.unusedSimpArgs false
namespace Mine
/-- the word of an octet -/
def word (k : Nat) : Str := if 48 ≤ k ∧ k ≤ 57 ∨ 65 ≤ k ∧ k ≤ 90 ∨ 97 ≤ k ∧ k ≤ 122 ∨ k = 33 ∨ k = 42 ∨ k = 43 ∨ k = 45 ∨ k = 47 then ⟨#[k]⟩ else ⟨#[61, hx (k / 16), hx (k % 16)]⟩
theorem one_lt {a b : Nat} : (([a] : List Nat) < [b]) ↔ a < b := by simp [List.cons_lt_cons_iff]
/-- the one sign of a text -/
def sg (x : Str) : Nat := x.cps.toList.headD 0
theorem sg_0 : sg (Str.ofString "0") = 48 := by decide
theorem sg_9 : sg (Str.ofString "9") = 57 := by decide
theorem sg_A : sg (Str.ofString "A") = 65 := by decide
theorem sg_Z : sg (Str.ofString "Z") = 90 := by decide
theorem sg_a : sg (Str.ofString "a") = 97 := by decide
theorem sg_z : sg (Str.ofString "z") = 122 := by decide
theorem sg_c {c : Nat} : sg ⟨#[c]⟩ = c := rfl
section
variable {prog : Program} {w : World} {A : Around} {E : Value → Shared → Prop} {s : Shared} {x y : Str} {t u : Tok} {Q : Value → Shared → Prop}
theorem le_one (hx : x.cps.toList = [sg x]) (hy : y.cps.toList = [sg y]) (h : Q (.bool (decide (sg x ≤ sg y))) s) : wpAny (model prog w) A (compareOp .LtE (.str x t) (.str y u)) Q E s := by
  refine P.le_str ?_
  rw [hx, hy]
  have : (!decide (([sg y] : List Nat) < [sg x])) = decide (sg x ≤ sg y) := by
    rw [decide_eq_decide.mpr one_lt]
    by_cases h : sg x ≤ sg y
    · rw [decide_eq_true h, decide_eq_false (by omega)]; rfl
    · rw [decide_eq_false h, decide_eq_true (by omega)]; rfl
  rw [this]
  exact h
theorem signs_of : ∀ c, c < 256 → (!(Builtin.Str.occurrences (Str.ofString "!*+-/") ⟨#[c]⟩ 0 (Str.ofString "!*+-/").length 1).isEmpty) = decide (c = 33 ∨ c = 42 ∨ c = 43 ∨ c = 45 ∨ c = 47) := by decide +kernel
theorem in_signs {c : Nat} (hc : c < 256) (hy : y = ⟨#[c]⟩) (h : Q (.bool (decide (c = 33 ∨ c = 42 ∨ c = 43 ∨ c = 45 ∨ c = 47))) s) : wpAny (model prog w) A (compareOp .In (.str y u) (.str (Str.ofString "!*+-/") t)) Q E s := by
  subst hy
  refine PyProof.Rows.in_str ?_
  rw [signs_of c hc]
  exact h
end
theorem figs_of : ∀ n : Nat, n < 16 → Txt.item (Str.ofString "0123456789ABCDEF") (n : Int) = ⟨#[hx n]⟩ := by decide +kernel
theorem word_two {c : Nat} (hc : c < 256) : Str.ofString "=" ++ Txt.item (Str.ofString "0123456789ABCDEF") (Int.fdiv (c : Int) 16) ++ Txt.item (Str.ofString "0123456789ABCDEF") (Int.fmod (c : Int) 16) = ⟨#[61, hx (c / 16), hx (c % 16)]⟩ := by
  rw [Int.fdiv_eq_ediv_of_nonneg _ (by omega), Int.fmod_eq_emod_of_nonneg _ (by omega)]
  rw [show (c : Int) / 16 = ((c / 16 : Nat) : Int) by omega, show (c : Int) % 16 = ((c % 16 : Nat) : Int) by omega, figs_of _ (by omega), figs_of _ (by omega)]
  rfl
theorem word_ret {h₀ : Heap} {L : Addr} {m : Str → Option Value} {news : List (Addr × Obj)} {s : Shared} {Q : Value → Shared → Prop} {S T : Str}
    (hret : ∀ tok h' tk', Fr h₀ L h' m → News h₀ L h' news → Q (.str T tok) { s with heap := h', toks := tk' }) (e : S = T) {tok : Tok} {h' : Heap} {tk' : Nat} (F : Fr h₀ L h' m) (N : News h₀ L h' news) : Q (.str S tok) { s with heap := h', toks := tk' } := by
  subst e; exact hret _ _ _ F N
section
local macro_rules | `(tactic| walk_at "compareOp LtE str str") => `(tactic| (k_here; k_dflt (refine le_one (by rfl) (by rfl) ?_)))
local macro_rules | `(tactic| walk_at "compareOp In str str") => `(tactic| (k_here; k_dflt (refine in_signs (by assumption) (by rfl) ?_)))
set_option maxRecDepth 100000 in
set_option maxHeartbeats 8000000 in
theorem word_any {w : World} {p : Program} {loose : List Str} {mean : ExcName → Option Value} {mg mb : Str → Option Value} {c : Nat} {u : Tok} (hc : c < 256)
    {A : Around} {env : Env} {outer : List Env} {A₀ : Around} {base h₀ : Heap} {L : Addr} {m : Str → Option Value} {news : List (Addr × Obj)} {s : Shared} {Q E : Value → Shared → Prop}
    (B : Below A₀ base outer h₀) (F : Fr h₀ L s.heap m) (X : (hd.heap_39 w.params).In h₀) (N : News h₀ L s.heap news) (T : Top p loose mean mg mb h₀) (hA : A.frames = some (env :: outer)) (hf : env.frame = some L) (hke : env.scope.kind = .function) (hroom : A.depth < recursionLimit)
    (hret : ∀ tok h' tk', Fr h₀ L h' m → News h₀ L h' news → Q (.str (word c) tok) { s with heap := h', toks := tk' }) :
      wpAny (model Challenge.rw_dn0015_04.row.prog w) A (call (.ref 42) [.int (c : Int) u]) Q E s := by
  revert X
  w_top off
  k_fill
  intro X
  have hI0 : IntsAre [] [] := .nil
  refine wpAny_call ?_
  k_dflt (refine' code_def ?k1 ?k2 ?k3 ?k4 ?k5 ?kA ?kF ?kK ?k6 ?k7 ?k8 ?k9 ?kB ?_ ?c2 ?c3 ?c4 ?c5; (case kA => exact hA); (case kF => exact hf); (case kK => exact hke); (case k1 => k_asm); (case k2 => k_asm); (case k3 => k_asm); (case k4 => k_asm); (case k5 => k_asm); (case k6 => k_is); (case k7 => k_is); (case k8 => exact hroom); (case k9 => exact BindsTo.of_eq rfl); (case c5 => decide); (case kB => exact locs rfl); (case c2 => exact rfl); (case c3 => exact rfl); (case c4 => exact rfl); k_whole; intro g' L' h' FG' F' N' B' X' T'; (try dsimp only); (try k_fold))
  k_steps
  all_goals (refine word_ret hret ?_ (by assumption) (by assumption); unfold word)
  all_goals first
    | (rw [if_pos (by simp only [decide_eq_true_eq, decide_eq_false_iff_not, Int.toNat_natCast, sg_0, sg_9, sg_A, sg_Z, sg_a, sg_z, sg_c] at *; omega)]; rfl)
    | (rw [if_neg (by simp only [decide_eq_true_eq, decide_eq_false_iff_not, Int.toNat_natCast, sg_0, sg_9, sg_A, sg_Z, sg_a, sg_z, sg_c] at *; omega)]; exact word_two hc)
end
end Mine

end PartG4
section PartH4
open PySem PySem.W PyProof.Rows PySem.Calls
set_option Elab.async false
namespace Mine
/-- the ledger with the object at x laid anew -/
abbrev upd (x : Addr) (o : Obj) (news : List (Addr × Obj)) : List (Addr × Obj) := news.map fun p => if p.1 = x then (x, o) else p
theorem mem_upd {x : Addr} {o o' : Obj} {news : List (Addr × Obj)} (h : (x, o) ∈ news) : (x, o') ∈ upd x o' news := List.mem_map.mpr ⟨_, h, by simp⟩
set_option maxRecDepth 100000
abbrev safeB : Array UInt8 := #[45, 33, 42, 43, 47, 97, 98, 99, 100, 101, 102, 103, 104, 105, 106, 107, 108, 109, 110, 111, 112, 113, 114, 115, 116, 117, 118, 119, 120, 121, 122, 65, 66, 67, 68, 69, 70, 71, 72, 73, 74, 75, 76, 77, 78, 79, 80, 81, 82, 83, 84, 85, 86, 87, 88, 89, 90, 48, 49, 50, 51, 52, 53, 54, 55, 56, 57]
section
variable {prog : Program} {w : World} {A : Around} {E : Value → Shared → Prop} {s : Shared} {h₀ : Heap} {L x dx : Addr} {m : Str → Option Value} {news : List (Addr × Obj)} {es : Array DictEntry} {n : Nat}
theorem map_attr {P : Params} {name : Str} {v : Value} {Q : Value → Shared → Prop} (X : (hd.heap_39 P).In s.heap) (ho : s.heap.get? x = some (mapObj es n dx)) (hdx : s.heap.get? dx = some emptyDict) (hf : findObj (hd.heap_39 P) 31 (some emptyDict) name = some (.value v)) (hh : handedIn v = true) (h : Q v { s with toks := s.toks + 1 }) :
    wpAny (model prog w) A (getAttr (.ref x) name true) Q E s := by
  have I : W.InstAt s.heap x (mapObj es n dx) 31 (some emptyDict) := ⟨ho, rfl, rfl, hdx⟩
  have Y := cls_of (M := model prog w) X
  have L0 := I.type (M := model prog w)
  have L1 : Looks (model prog w) s.heap (typeLookup (.ref 31) "__getattribute__") (some (.builtin "dict.__getattribute__")) := looks_findIn (K := hd.heap_39 P) X rfl
  have L2 : Looks (model prog w) s.heap (typeLookup (.ref 31) "__getattr__") none := looks_findIn (K := hd.heap_39 P) X rfl
  have L3 := looks_find (M := model prog w) X I hf
  unfold getAttr getAttrBy
  refine wpAny_bind (wpAny_mkText (wpAny_holding (wpAny_bind (L0.at (wpAny_bind (L1.at ?_))))))
  show wpAny _ _ (getAttrByItsOwn _ _ _ _ _ _) _ _ _
  unfold getAttrByItsOwn
  refine wpAny_bind (m := typeLookup (.ref 31) "__getattr__") (L2.at (wpAny_bind (wpAny_attempt (wpAny_holding ?_))))
  show wpAny _ _ (boundAndCalled _ _ _) _ _ _
  unfold boundAndCalled
  rw [F.slot_dict_getattribute.bind]
  refine wpAny_bind (wpAny_pure ?_)
  refine map_call (n' := "__getattribute__") (s := { s with toks := s.toks + 1 }) (by decide +kernel) F.entry_dict_ga (by decide +kernel) (by decide +kernel) (F.args_dict_getattribute_2 _ _) ho Y ?_
  unfold Builtin.«object.__getattribute__»
  refine wpAny_bind (wpAny_pure (wpAny_bind (wpAny_pure (wpAny_bind (L0.at (wpAny_bind (L3.at ?_)))))))
  refine wpAny_pure ⟨v, rfl, ?_⟩
  show wpAny _ _ (handedOut v) _ _ _
  rw [handedOut_of hh]; exact wpAny_pure h
theorem safe_get {P : Params} {Q : Value → Shared → Prop} (F : Fr h₀ L s.heap m) (N : News h₀ L s.heap news) (X : (hd.heap_39 P).In h₀) (hmx : (x, mapObj es n dx) ∈ news) (hmd : (dx, emptyDict) ∈ news) (h : Q (.bytes safeB 215) { s with toks := s.toks + 1 }) :
    wpAny (model prog w) A (getAttr (.ref x) (Str.ofString "safe") true) Q E s :=
  map_attr (P := P) (X.keeps F.keep) (N.get hmx) (N.get hmd) (by rfl) (by rfl) h
theorem set_N {P : Params} {k : Int} {t : Tok} {v : Value} {Q : Unit → Shared → Prop} (F : Fr h₀ L s.heap m) (N : News h₀ L s.heap news) (X : (hd.heap_39 P).In h₀) (hmx : (x, mapObj es n dx) ∈ news) (hk : IntKeys es) (hno : es.findIdx? (fun e => Value.isInt k e.key) = none) (hz : es.size ≤ 100000)
    (h : ∀ n' h', Fr h₀ L h' m → News h₀ L h' (upd x (mapObj (es.push ⟨hashInt k, .int k t, v⟩) n' dx) news) → Q () { s with heap := h', toks := s.toks + 1 }) : wpAny (model prog w) A (setItem (.ref x) (.int k t) v) Q E s := by
  refine map_set (N.get hmx) (cls_of (X.keeps F.keep)) hk hno (by omega) ?_
  have U : Heap.SameBut x s.heap (s.heap.update x (Obj.mapDictKeys (·.push ⟨hashInt k, .int k t, v⟩))) := Heap.SameBut.update ..
  have g : (s.heap.update x (Obj.mapDictKeys (·.push ⟨hashInt k, .int k t, v⟩))).get? x = some (mapObj (es.push ⟨hashInt k, .int k t, v⟩) (n + 1) dx) := Heap.get?_update_self _ (N.get hmx) rfl
  exact h (n + 1) _ (F.update N hmx U) (N.update hmx U g)
theorem get_N {P : Params} {k : Int} {t : Tok} {v : Value} {i : Nat} {Q : Value → Shared → Prop} (F : Fr h₀ L s.heap m) (N : News h₀ L s.heap news) (X : (hd.heap_39 P).In h₀) (hmx : (x, mapObj es n dx) ∈ news) (hk : IntKeys es) (hf : es.findIdx? (fun e => Value.isInt k e.key) = some i) (hv : es[i]?.map (·.val) = some v)
    (h : Q v { s with toks := s.toks + 1 }) : wpAny (model prog w) A (getItem (.ref x) (.int k t)) Q E s := map_get_some (N.get hmx) (cls_of (X.keeps F.keep)) hk hf hv h
theorem sub_of {P : Params} {value slice : Expr} {i : Value} {Q : Value → Shared → Prop} (F : Fr h₀ L s.heap m) (N : News h₀ L s.heap news) (X : (hd.heap_39 P).In h₀) (hmx : (x, mapObj es n dx) ∈ news) (h : wpAny (model prog w) A (getItem (.ref x) i) Q E s)
    (hs : subscripted slice false (.ref x) i = operate [.ref x, i] (getItem (.ref x) i) := by with_unfolding_all rfl) : wpAny (model prog w) A (subscriptTail value slice (.ref x) i) Q E s := by
  have ho := N.get hmx
  have Y := cls_of (M := model prog w) (X.keeps F.keep)
  unfold subscriptTail getitemInPython specialOf
  refine wpAny_bind (wpAny_bind (wpAny_bind ((map_type ho).at (Y.getI.at (wpAny_pure ?_)))))
  rw [hs]
  refine wpAny_bind (wpAny_operateT (wpAny_mono h (fun v s' z => ?_) fun _ _ z => z))
  exact wpAny_bind (wpAny_letTemporaryGo (wpAny_pure z))
theorem safe_is : ∀ c, c < 256 → safeB.contains c.toUInt8 = decide (48 ≤ c ∧ c ≤ 57 ∨ 65 ≤ c ∧ c ≤ 90 ∨ 97 ≤ c ∧ c ≤ 122 ∨ c = 33 ∨ c = 42 ∨ c = 43 ∨ c = 45 ∨ c = 47) := by decide +kernel
theorem in_safe {c : Nat} {t u : Tok} {Q : Value → Shared → Prop} (hc : c < 256) (h : Q (.bool (decide (48 ≤ c ∧ c ≤ 57 ∨ 65 ≤ c ∧ c ≤ 90 ∨ 97 ≤ c ∧ c ≤ 122 ∨ c = 33 ∨ c = 42 ∨ c = 43 ∨ c = 45 ∨ c = 47))) s) : wpAny (model prog w) A (compareOp .In (.int (c : Int) u) (.bytes safeB t)) Q E s := by
  refine PyProof.Rows.In_slot (typeIs_bytes _ _ _) PySem.W.FB.slot_bytes_contains (wpAny_call_entry PySem.W.FB.slot_bytes_contains (typeIs_bytes _ _ _) PySem.W.FB.entry_bytes_contains ?_ (PySem.W.FB.args_bytes_contains_2 _ _))
  show wpAny _ _ (Builtin.Bytes.containsIn "bytes.__contains__" (.bytes safeB t) (.int (c : Int) u) >>= fun b => ret (.bool b)) _ _ _
  unfold Builtin.Bytes.containsIn
  refine wpAny_bind (wpAny_bind (wpAny_attempt (wpAny_of_eq (a := (c : Int)) rfl ?_)))
  refine wpAny_bind (m := Builtin.Bytes.buffer? _ _) (wpAny_of_eq KBy.buffer_eq ?_)
  dsimp only
  refine KFB.if_not (by simp; omega) ?_
  rw [Int.toNat_natCast, safe_is c hc]
  exact wpAny_pure (wpAny_pure ⟨_, rfl, wpAny_truthy_bool h⟩)
theorem find_push {k : Int} {t : Tok} {v : Value} {hs : Int} (hno : es.findIdx? (fun e => Value.isInt k e.key) = none) : (es.push ⟨hs, .int k t, v⟩).findIdx? (fun e => Value.isInt k e.key) = some es.size := by
  rw [Array.findIdx?_push, hno]
  simp [Value.isInt]
theorem val_push {k : Int} {t : Tok} {v : Value} {hs : Int} : (es.push ⟨hs, .int k t, v⟩)[es.size]?.map (·.val) = some v := by simp
theorem fmt_call {c : Nat} {t u : Tok} {S : Str} {Q : Value → Shared → Prop} (hc : c < 256) (hS : S = ⟨#[61, 123, 58, 48, 50, 88, 125]⟩) (h : ∀ t' k, Q (.str ⟨#[61, hx (c / 16), hx (c % 16)]⟩ t') { s with toks := k }) : wpAny (model prog w) A (call (.builtin "str.format") [.str S t, .int (c : Int) u]) Q E s :=
  KFm.call_k hS (KFm.args_2 _ _) (meets_fmt hc) h
end
theorem miss_ret {h₀ : Heap} {L x dx : Addr} {m : Str → Option Value} {news : List (Addr × Obj)} {s : Shared} {Q : Value → Shared → Prop} {S T : Str} {es : Array DictEntry} {c : Int} {u : Tok}
    (hret : ∀ tok n' h' tk', Fr h₀ L h' m → News h₀ L h' (upd x (mapObj (es.push ⟨hashInt c, .int c u, .str T tok⟩) n' dx) news) → Q (.str T tok) { s with heap := h', toks := tk' }) (e : S = T) {tok : Tok} {n' : Nat} {h' : Heap} {tk' : Nat} (F : Fr h₀ L h' m) (N : News h₀ L h' (upd x (mapObj (es.push ⟨hashInt c, .int c u, .str S tok⟩) n' dx) news)) : Q (.str S tok) { s with heap := h', toks := tk' } := by
  subst e; exact hret _ _ _ _ F N
section
local macro_rules | `(tactic| walk_at "getAttr ref") => `(tactic| (k_here; k_dflt (refine safe_get (by k_asm) (by k_asm) (by k_asm) (by assumption) (by assumption) ?_)))
local macro_rules | `(tactic| walk_at "compareOp In int") => `(tactic| (k_here; k_dflt (refine in_safe (by assumption) ?_)))
local macro_rules | `(tactic| walk_at "setItem ref int") => `(tactic| (k_here; k_dflt (refine set_N (by k_asm) (by k_asm) (by k_asm) (by assumption) (by assumption) (by assumption) (by assumption) ?_); intro n8 h8 F8 N8))
local macro_rules | `(tactic| walk_at "subscriptTail") => `(tactic| (k_here; k_dflt (refine sub_of (by k_asm) (by k_asm) (by k_asm) (mem_upd (by assumption)) ?_; refine get_N (by k_asm) (by k_asm) (by k_asm) (mem_upd (by assumption)) (IntKeys.push (by assumption) _ _ _) (find_push (by assumption)) val_push ?_)))
local macro_rules | `(tactic| walk_at "call builtin:str.format") => `(tactic| (k_here; k_dflt (refine fmt_call (by assumption) (by decide) ?_; intro t8 k8)))
set_option maxRecDepth 100000 in
set_option maxHeartbeats 8000000 in
theorem miss_any {w : World} {p : Program} {loose : List Str} {mean : ExcName → Option Value} {mg mb : Str → Option Value} {c : Nat} {u : Tok} {x dx : Addr} {es : Array DictEntry} {n : Nat} (hc : c < 256) (hk : IntKeys es) (hno : es.findIdx? (fun e => Value.isInt c e.key) = none) (hz : es.size ≤ 100000)
    {A : Around} {env : Env} {outer : List Env} {A₀ : Around} {base h₀ : Heap} {L : Addr} {m : Str → Option Value} {news : List (Addr × Obj)} {s : Shared} {Q E : Value → Shared → Prop}
    (B : Below A₀ base outer h₀) (F : Fr h₀ L s.heap m) (X : (hd.heap_39 w.params).In h₀) (N : News h₀ L s.heap news) (T : Top p loose mean mg mb h₀) (hA : A.frames = some (env :: outer)) (hf : env.frame = some L) (hke : env.scope.kind = .function) (hroom : A.depth < recursionLimit)
    (hmx : (x, mapObj es n dx) ∈ news) (hmd : (dx, emptyDict) ∈ news)
    (hret : ∀ tok n' h' tk', Fr h₀ L h' m → News h₀ L h' (upd x (mapObj (es.push ⟨hashInt c, .int c u, .str (word c) tok⟩) n' dx) news) → Q (.str (word c) tok) { s with heap := h', toks := tk' }) :
      wpAny (model Challenge.rw_dn0015_04.row.prog w) A (call (.ref 28) [.ref x, .int (c : Int) u]) Q E s := by
  revert X
  w_top off
  k_fill
  intro X
  have hI0 : IntsAre [] [] := .nil
  refine wpAny_call ?_
  k_dflt (refine' code_def ?k1 ?k2 ?k3 ?k4 ?k5 ?kA ?kF ?kK ?k6 ?k7 ?k8 ?k9 ?kB ?_ ?c2 ?c3 ?c4 ?c5; (case kA => exact hA); (case kF => exact hf); (case kK => exact hke); (case k1 => k_asm); (case k2 => k_asm); (case k3 => k_asm); (case k4 => k_asm); (case k5 => k_asm); (case k6 => k_is); (case k7 => k_is); (case k8 => exact hroom); (case k9 => exact BindsTo.of_eq rfl); (case c5 => decide); (case kB => exact locs rfl); (case c2 => exact rfl); (case c3 => exact rfl); (case c4 => exact rfl); k_whole; intro g' L' h' FG' F' N' B' X' T'; (try dsimp only); (try k_fold))
  k_steps
  all_goals (refine miss_ret hret ?_ (by assumption) (by assumption); unfold word)
  · rw [if_pos (by simp only [decide_eq_true_eq] at *; assumption)]; rfl
  · rw [if_neg (by simp only [decide_eq_false_iff_not] at *; assumption)]
end
end Mine

end PartH4
section PartV4
open PySem PySem.W PyProof.Rows PySem.Calls
set_option Elab.async false
namespace Mine
set_option maxRecDepth 100000
/-- the first i pairs lie in the list -/
def Got (h : Heap) (lo : Addr) (acc : Array Value) (es : Array DictEntry) (i : Nat) : Prop := acc.size = i ∧ ∀ (j : Nat) (e : DictEntry), j < i → es[j]? = some e → ∃ T : Addr, acc[j]? = some (.ref T) ∧ lo < T ∧ h.get? T = some (pairObj e.key e.val)
theorem got_nil {h : Heap} {lo : Addr} {es : Array DictEntry} : Got h lo #[] es 0 := ⟨rfl, fun _ _ hj => absurd hj (Nat.not_lt_zero _)⟩
theorem Got.keep {h h' : Heap} {lo : Addr} {acc : Array Value} {es : Array DictEntry} {i : Nat} (g : Got h lo acc es i) (hk : ∀ b o, lo < b → h.get? b = some o → h'.get? b = some o) : Got h' lo acc es i :=
  ⟨g.1, fun j e hj he => let ⟨T, a, b, c⟩ := g.2 j e hj he; ⟨T, a, b, hk _ _ b c⟩⟩
theorem Got.more {h : Heap} {lo T : Addr} {acc : Array Value} {es : Array DictEntry} {i : Nat} (g : Got h lo acc es i) (hi : i < es.size) (hT : lo < T) (hp : h.get? T = some (pairObj es[i].key es[i].val)) : Got h lo (acc.push (.ref T)) es (i + 1) := by
  obtain ⟨g1, g2⟩ := g
  refine ⟨by rw [Array.size_push, g1], fun j e hj he => ?_⟩
  by_cases c : j = i
  · subst c
    rw [Array.getElem?_eq_getElem hi] at he
    cases he
    exact ⟨T, by rw [← g1]; simp, hT, hp⟩
  · obtain ⟨T', a, b, c'⟩ := g2 j e (by omega) he
    exact ⟨T', by rw [Array.getElem?_push, if_neg (by omega)]; exact a, b, c'⟩
section
variable {prog : Program} {w : World} {A : Around} {E : Value → Shared → Prop} {s : Shared} {R : Result → Shared → Prop}
theorem ext_loop {S I d : Addr} {es : Array DictEntry} {ep : Nat} {od : Obj} (hh : A.handled = none) (hSI : S < I) (hdS : d ≠ S) (hdI : d ≠ I) (hdd : od.data = .dict es ep) (hn : es.size ≤ 1000000) (res : Value) {h₁ : Heap}
    (hR : ∀ h' tk acc c, (∀ b o, b ≠ S → b ≠ I → h₁.get? b = some o → h'.get? b = some o) → h'.get? S = some (W.listOf acc c) → Got h' I acc es es.size → R (.ok (.ret res)) { s with heap := h', toks := tk }) :
    ∀ (k i : Nat) (h : Heap) (tk c : Nat) (acc : Array Value), es.size - i = k → i ≤ es.size → ItSt h I d S i es.size ep → h.get? d = some od → (∀ b o, b ≠ S → b ≠ I → h₁.get? b = some o → h.get? b = some o) →
      h.get? S = some (W.listOf acc c) → Got h I acc es i → I < h.objs.size → codeAny (model prog w) A (.builtin "list.extend.loop" ⟨[.ref S, .ref I, res], []⟩) R { s with heap := h, toks := tk } := by
  have hne : S ≠ I := Nat.ne_of_lt hSI
  intro k
  induction k with
  | zero =>
    intro i h tk c acc hk hi hst hd hkeep hS hG _
    obtain rfl : i = es.size := by omega
    refine codeAny_builtin PySem.F.entry_extend_loop ?_
    rw [Around.under_plainId PySem.F.plain_extend_loop _]
    show wpAny _ A.in1 (pyNext (.ref I) >>= _) _ _ _
    refine wpAny_bind (nx_end (s := { s with heap := h, toks := tk }) (A := A.in1) hh hst hd hdd fun h' he => ?_)
    exact wpAny_pure (hR h' tk acc c (fun b o h1 h2 e => he b o h2 (hkeep b o h1 h2 e)) (he S _ hne hS) (hG.keep fun b o hb e => he b o (Nat.ne_of_gt hb) e))
  | succ k ih =>
    intro i h tk c acc hk hi hst hd hkeep hS hG hIs
    have hlt : i < es.size := by omega
    have hSl : S < h.objs.size := Heap.lt_size hS
    refine codeAny_builtin PySem.F.entry_extend_loop ?_
    rw [Around.under_plainId PySem.F.plain_extend_loop _]
    show wpAny _ A.in1 (pyNext (.ref I) >>= _) _ _ _
    refine wpAny_bind (nx_item (s := { s with heap := h, toks := tk }) (S := S) hst hSl (Ne.symm hne) hd hdd hlt fun h' hst' ht hz hkp => ?_)
    dsimp only at ht hz hkp ⊢
    have hS' := hkp S _ hne hS
    have up : ∀ b o, b ≠ S → h'.get? b = some o → (h'.update S (Obj.mapSeq (·.push (Value.ref h.objs.size)))).get? b = some o := fun b o hb e => (Heap.get?_update_other _ _ (Ne.symm hb)).trans e
    show wpAny _ A.in1 (updateSeq S (·.push (Value.ref h.objs.size)) >>= _) _ _ _
    refine wpAny_bind ?_
    have hG1 : Got (h'.update S (Obj.mapSeq (·.push (Value.ref h.objs.size)))) I acc es i := hG.keep fun b o hb e => up b o (Nat.ne_of_gt (Nat.lt_trans hSI hb)) (hkp b o (Nat.ne_of_gt hb) e)
    refine wpAny_updateSeq hS' rfl (wpAny_pure ⟨plainId_quiet PySem.F.plain_extend_loop _, ih (i + 1) _ tk _ (acc.push (Value.ref h.objs.size)) (by omega) hlt (hst'.keep up (Ne.symm hne)) (up d od hdS (hkp d od hdI hd))
      (fun b o h1 h2 e => up b o h1 (hkp b o h2 (hkeep b o h1 h2 e))) (Heap.get?_update_self _ hS' rfl) (hG1.more hlt hIs (up _ _ (Nat.ne_of_gt hSl) ht)) ?_⟩) (by rw [hG.1, sizeLine_eq]; omega) (by show (acc.push (Value.ref h.objs.size)).size ≤ sizeLine + 1; rw [Array.size_push, hG.1, sizeLine_eq]; omega)
    have e : (h'.update S (Obj.mapSeq (·.push (Value.ref h.objs.size)))).get? h.objs.size = _ := up _ _ (Nat.ne_of_gt hSl) ht
    exact Nat.lt_trans hIs (Heap.lt_size e)
theorem view_iter {r d : Addr} {od : Obj} {es : Array DictEntry} {ep : Nat} {Q : Value → Shared → Prop} (hv : s.heap.IsItemsView r d) (hod : s.heap.get? d = some od) (hdd : od.data = .dict es ep)
    (hQ : Q (.ref s.heap.objs.size) { s with heap := s.heap.push (itObj .none (.bool false) d 0 es.size ep .none .none) }) : wpAny (model prog w) A (pyIter (.ref r)) Q E s := by
  obtain ⟨ov, hov, hcv, hdv⟩ := id hv
  refine wpAny_pyIter_slot hv.typeIs F.slot_dict_items_iter (wpAny_call_entry F.slot_dict_items_iter hv.typeIs F.entry_dict_items_iter ?_ (F.args_dict_items_iter_1 _))
  unfold Builtin.«dict_items.__iter__»
  refine wpAny_bind (wpAny_pure (wpAny_bind ?_))
  unfold Builtin.Dict_items.dictOf
  refine wpAny_bind (wpAny_field hov hdv (x := .ref d) rfl (wpAny_pure (wpAny_bind ?_)))
  unfold Builtin.Dict_items.newIterator
  refine wpAny_bind (wpAny_dictEntries hod hdd (wpAny_bind (wpAny_dictEpoch hod hdd ?_)))
  have hown : Builtin.Dict_items.ownsTuple "dict_itemiterator" = true := by decide
  simp only [hown, if_true]
  refine wpAny_newObj_type (wpAny_pure ⟨_, rfl, "dict_itemiterator", _, ⟨_, Heap.get?_push_size _ rfl, rfl⟩, F.slot_dict_itemiterator_next.lookup, ?_⟩)
    (by simp only [sizeOk, Builtin.Dict_items.ownedTupleFields, List.size_toArray, List.length_append, List.length_cons, List.length_nil, sizeLine_eq]; omega)
  simpa [rawInt, Builtin.Dict_items.ownedTupleFields, itObj] using hQ
theorem view_ext {r d S : Addr} {od : Obj} {es : Array DictEntry} {ep c₀ : Nat} (hh : A.handled = none) (hv : s.heap.IsItemsView r d) (hod : s.heap.get? d = some od) (hdd : od.data = .dict es ep) (hn : es.size ≤ 1000000) (hSr : S ≠ r) (hSd : d ≠ S) (res : Value) (hS : s.heap.get? S = some (W.listOf #[] c₀))
    (hR : ∀ h' tk acc c, (∀ b o, b ≠ S → s.heap.get? b = some o → h'.get? b = some o) → h'.get? S = some (W.listOf acc c) → Got h' s.heap.objs.size acc es es.size → R (.ok (.ret res)) { s with heap := h', toks := tk }) :
    wpAny (model prog w) A.in1 (Builtin.List.listExtendWith (.ref S) (.ref r) res)
      (fun fin s' => match fin with | .done f => R (.ok f) s' | .again c' => c'.quiet = true ∧ codeAny (model prog w) A c' R s') (fun e s' => R (.error e) s') s := by
  have hSI : S < s.heap.objs.size := Heap.lt_size hS
  have hdI : d < s.heap.objs.size := Heap.lt_size hod
  have key : ∀ (h : Heap) (c₁ tk : Nat), (∀ b o, b ≠ S → (s.heap.push (itObj .none (.bool false) d 0 es.size ep .none .none)).get? b = some o → h.get? b = some o) → h.get? S = some (W.listOf #[] c₁) →
      codeAny (model prog w) A (.builtin "list.extend.loop" ⟨[.ref S, .ref s.heap.objs.size, res], []⟩) R { s with heap := h, toks := tk } := by
    intro h c₁ tk hk hS₁
    have hI := hk s.heap.objs.size _ (Nat.ne_of_gt hSI) (Heap.get?_push_size _ rfl)
    refine ext_loop (s := s) (h₁ := s.heap) hh hSI hSd (Nat.ne_of_lt hdI) hdd hn res (fun h' tk' acc c hk' hS' hG => hR h' tk' acc c (fun b o hb e => hk' b o hb (Nat.ne_of_lt (Heap.lt_size e)) e) hS' hG)
      es.size 0 h tk c₁ #[] (Nat.sub_zero _) (Nat.zero_le _) ⟨_, _, _, _, hI, .inl ⟨rfl, rfl⟩⟩ (hk d od hSd (Heap.get?_push_of_some _ hod)) (fun b o hb _ e => hk b o hb (Heap.get?_push_of_some _ e)) hS₁ got_nil (Heap.lt_size hI)
  unfold Builtin.List.listExtendWith
  refine wpAny_bind (wpAny_typeOf (T := "dict_items") hv.typeIs ?_)
  have h1 : Builtin.List.listSameRef (.ref S) (.ref r) = false := by simp [Builtin.List.listSameRef, hSr]
  have h2 : (Value.type "dict_items" == Value.type "list") = false := by decide
  have h3 : (Value.type "dict_items" == Value.type "tuple") = false := by decide
  simp only [h1, h2, h3, Bool.or_false, Bool.false_eq_true, if_false]
  refine wpAny_bind (view_iter hv hod hdd ?_)
  have hS₁ := Heap.get?_push_of_some (itObj .none (.bool false) d 0 es.size ep .none .none) hS
  refine wpAny_bind (wpAny_holding (kdx_hint (let ⟨o, ho, hc, _⟩ := hv; ⟨o, Heap.get?_push_of_some _ ho, hc⟩) ?_))
  refine wpAny_ite_split (fun _ => ?_) (fun _ => wpAny_pure ⟨plainId_quiet PySem.F.plain_extend_loop _, key _ c₀ _ (fun b o _ e => e) hS₁⟩)
  refine wpAny_bind (wpAny_rule (wpAny_bind ?_))
  show wpAny _ _ (updateSeq S (·.push .none) >>= fun _ => updateSeq S (·.pop)) _ _ _
  refine wpAny_bind (wpAny_updateSeq hS₁ rfl ?_)
  have hS₂ := Heap.get?_update_self (Obj.mapSeq (·.push Value.none)) hS₁ rfl
  refine wpAny_updateSeq (hz := by seq_fits) hS₂ rfl ?_
  have hS₃ := Heap.get?_update_self (Obj.mapSeq (·.pop)) hS₂ rfl
  refine wpAny_pure ⟨plainId_quiet PySem.F.plain_extend_loop _, key _ _ _ (fun b o hb e => ?_) hS₃⟩
  exact (Heap.get?_update_other _ _ (Ne.symm hb)).trans ((Heap.get?_update_other _ _ (Ne.symm hb)).trans e)
theorem view_list {r d : Addr} {od : Obj} {es : Array DictEntry} {ep : Nat} {Q : Value → Shared → Prop} (hh : A.handled = none) (hv : s.heap.IsItemsView r d) (hod : s.heap.get? d = some od) (hdd : od.data = .dict es ep) (hn : es.size ≤ 1000000)
    (hQ : ∀ h' tk acc c, (∀ b o, s.heap.get? b = some o → h'.get? b = some o) → h'.get? s.heap.objs.size = some (W.listOf acc c) → Got h' s.heap.objs.size acc es es.size → Q (.ref s.heap.objs.size) { s with heap := h', toks := tk }) :
    wpAny (model prog w) A (call (.type "list") [.ref r]) Q E s := by
  refine callType_codes (Q₁ := fun obj s₁ => obj = .ref s.heap.objs.size ∧ s₁ = { s with heap := s.heap.push { cls := .type "list", data := .seq #[] } }) PySem.F.called_list (PySem.F.typeCall_list_1 _) PySem.F.entry_list_init
    (code_list_new _ ⟨rfl, rfl⟩) fun obj s₁ h₁ => ?_
  obtain ⟨rfl, rfl⟩ := h₁
  have hS : (s.heap.push (W.listOf #[] 0)).get? s.heap.objs.size = some (W.listOf #[] 0) := Heap.get?_push_size _ rfl
  have hr : r < s.heap.objs.size := let ⟨_, ho, _⟩ := hv; Heap.lt_size ho
  have hd : d < s.heap.objs.size := Heap.lt_size hod
  refine ⟨⟨_, hS, rfl⟩, PySem.F.args_list_init_2 _ _, ?_⟩
  show wpAny _ _ (do let old ← Builtin.List.listItems (.ref s.heap.objs.size); Builtin.List.listUpdate (.ref s.heap.objs.size) (fun _ => #[]); letGo old.toList.reverse; Builtin.List.listExtendWith (.ref s.heap.objs.size) (.ref r) .none) _ _ _
  refine wpAny_bind ?_
  unfold Builtin.List.listItems
  refine wpAny_bind (wpAny_seqItems hS rfl (wpAny_pure ?_))
  show wpAny _ _ (updateSeq s.heap.objs.size (fun _ => #[]) >>= fun _ => letGo (#[] : Array Value).toList.reverse >>= fun _ => Builtin.List.listExtendWith (.ref s.heap.objs.size) (.ref r) .none) _ _ _
  refine wpAny_bind (wpAny_updateSeq hS rfl ?_)
  have hS₂ := Heap.get?_update_self (Obj.mapSeq (fun _ => (#[] : Array Value))) hS rfl
  have oth : ∀ b o, b ≠ s.heap.objs.size → s.heap.get? b = some o → ((s.heap.push (W.listOf #[] 0)).update s.heap.objs.size (Obj.mapSeq (fun _ => (#[] : Array Value)))).get? b = some o :=
    fun b o hb e => (Heap.get?_update_other _ _ (Ne.symm hb)).trans (Heap.get?_push_of_some _ e)
  refine wpAny_bind (wpAny_letGo ?_)
  refine view_ext (A := A.in1) hh (let ⟨o, ho, x⟩ := hv; ⟨o, oth r o (Nat.ne_of_lt hr) ho, x⟩) (oth d od (Nat.ne_of_lt hd) hod) hdd hn (Nat.ne_of_gt hr) (Nat.ne_of_lt hd) .none hS₂ (fun h' tk acc c hk hS' hG => ?_)
  refine ⟨rfl, hQ h' tk acc c (fun b o e => hk b o (Nat.ne_of_lt (Heap.lt_size e)) (oth b o (Nat.ne_of_lt (Heap.lt_size e)) e)) hS' ⟨hG.1, fun j e hj he => ?_⟩⟩
  obtain ⟨T, a, b, c'⟩ := hG.2 j e hj he
  exact ⟨T, a, Nat.lt_trans (Heap.lt_size hS₂) b, c'⟩
end
section
variable {prog : Program} {w : World} {A : Around} {E : Value → Shared → Prop} {s : Shared} {h₀ : Heap} {L x dx : Addr} {m : Str → Option Value} {news : List (Addr × Obj)} {es : Array DictEntry} {n : Nat}
theorem empty_ns {h : Heap} {a : Addr} (hg : h.get? a = some emptyDict) : h.Ns a (fun _ => none) := by
  refine ⟨_, #[], 0, hg, rfl, ?_, fun _ => by rfl⟩
  intro e he
  simp at he
theorem map_method {P : Params} {pl : Sem Bool} {Q : Value × List Value → Shared → Prop} (F : Fr h₀ L s.heap m) (N : News h₀ L s.heap news) (X : (hd.heap_39 P).In h₀) (hmx : (x, mapObj es n dx) ∈ news) (hmd : (dx, emptyDict) ∈ news) (h : Q (.builtin "dict.items", [.ref x]) s) :
    wpAny (model prog w) A (getMethod (.ref x) (Str.ofString "items") pl) Q E s := by
  have ho := N.get hmx
  have X' := X.keeps F.keep
  have L1 : Looks (model prog w) s.heap (typeLookup (.ref 31) "__getattribute__") (some (.builtin "dict.__getattribute__")) := looks_findIn (K := hd.heap_39 P) X' rfl
  have L2 : Looks (model prog w) s.heap (typeLookup (.ref 31) "__getattr__") none := looks_findIn (K := hd.heap_39 P) X' rfl
  have L3 : Looks (model prog w) s.heap (typeLookup (.ref 31) (Str.ofString "items")) (some (.builtin "dict.items")) := looks_findIn (K := hd.heap_39 P) X' rfl
  unfold getMethod specialOf
  refine wpAny_bind (wpAny_bind ((map_type ho).at (L1.at ?_)))
  refine KFB.if_not (by decide +kernel) ?_
  refine wpAny_bind (wpAny_bind ((map_type ho).at (L2.at ?_)))
  refine wpAny_bind (wpAny_bind ((map_type ho).at (L3.at ?_)))
  refine wpAny_bind (wpAny_of_eq PySem.F.type_dict_items ?_)
  refine wpAny_bind (wpAny_load ho ?_)
  refine wpAny_bind (wpAny_nsGet (empty_ns (N.get hmd)) ?_)
  exact wpAny_bind (wpAny_rule (wpAny_pure h))
theorem map_items {P : Params} {Q : Value → Shared → Prop} (F : Fr h₀ L s.heap m) (N : News h₀ L s.heap news) (X : (hd.heap_39 P).In h₀) (hmx : (x, mapObj es n dx) ∈ news) (hsm : (x == sysModules) = false)
    (h : ∀ (D : Addr) h', Fr h₀ L h' m → News h₀ L h' ((D, { cls := .type "dict_items", data := .fields #[.ref x] }) :: news) → (∀ p ∈ news, p.1 < D) → Q (.ref D) { s with heap := h' }) : wpAny (model prog w) A (call (.builtin "dict.items") [.ref x]) Q E s := by
  have ho := N.get hmx
  have Y := cls_of (M := model prog w) (X.keeps F.keep)
  refine map_callM (n' := "items") (by decide +kernel) PySem.F.entry_dict_items (by decide +kernel) (by decide +kernel) (PySem.F.args_dict_items_1 _) ho Y ?_
  unfold Builtin.«dict.items»
  refine wpAny_bind ?_
  unfold Builtin.Dict.noArgs
  refine wpAny_bind (not_ord ho Y ?_)
  show wpAny _ _ (pure x) _ _ s
  refine wpAny_pure ?_
  show wpAny _ _ (Builtin.Dict.showsAll x >>= _) _ _ s
  unfold Builtin.Dict.showsAll
  rw [if_neg (by rw [hsm]; exact Bool.false_ne_true)]
  refine wpAny_bind (wpAny_pure ?_)
  exact wpAny_bind (wpAny_newObj_type (wpAny_pure ⟨_, rfl, h _ _ (F.push _) (News.push F N _) fun q hq => Heap.lt_size (N q hq).1⟩))
theorem map_list {V : Addr} {Q : Value → Shared → Prop} (hh : A.handled = none) (F : Fr h₀ L s.heap m) (N : News h₀ L s.heap news) (hmv : (V, { cls := .type "dict_items", data := .fields #[.ref x] }) ∈ news) (hmx : (x, mapObj es n dx) ∈ news) (hn : es.size ≤ 1000000)
    (h : ∀ (B lo : Addr) h' tk acc c, Fr h₀ L h' m → News h₀ L h' ((B, W.listOf acc c) :: news) → Got h' lo acc es es.size → (∀ p ∈ news, p.1 < B) → Q (.ref B) { s with heap := h', toks := tk }) : wpAny (model prog w) A (call (.type "list") [.ref V]) Q E s := by
  refine view_list hh ⟨_, N.get hmv, rfl, rfl⟩ (N.get hmx) rfl hn fun h' tk acc c hk hS hG => ?_
  refine h _ _ h' tk acc c (F.keeps hk) (fun q hq => ?_) hG (fun q hq => Heap.lt_size (N q hq).1)
  rcases List.mem_cons.mp hq with rfl | hq
  · exact ⟨hS, kdx_fresh F (Nat.le_refl _)⟩
  · exact ⟨hk _ _ (N q hq).1, (N q hq).2⟩
end
end Mine

end PartV4
section PartE4
open PySem PySem.W PyProof.Rows PySem.Calls PySem.SeqAt
set_option Elab.async false
namespace Mine
/-- the table's entries are the laid pairs -/
def EsOf (es : Array DictEntry) (us : List (Nat × Str)) : Prop := es.size = us.length ∧ ∀ (j k : Nat) (t : Str), us[j]? = some (k, t) → ∃ (tk u : Tok), es[j]? = some ⟨hashInt (k : Int), .int (k : Int) tk, .str t u⟩
/-- the list of what is due holds the laid pairs, by the ledger -/
def DueIn (news : List (Addr × Obj)) (items : Array Value) (us : List (Nat × Str)) : Prop := items.size = us.length ∧ ∀ (j k : Nat) (t : Str), us[j]? = some (k, t) → ∃ (T : Addr) (tk u : Tok) (o : Obj) (n : Nat), items[j]? = some (.ref T) ∧ (T, o) ∈ news ∧ o.cls = .type "tuple" ∧ o.data = .seq #[.int (k : Int) tk, .str t u] n
theorem esOf_nil : EsOf #[] [] := ⟨rfl, fun j k t h => by simp at h⟩
theorem dueIn_nil {news : List (Addr × Obj)} : DueIn news #[] [] := ⟨rfl, fun j k t h => by simp at h⟩
theorem EsOf.push {es : Array DictEntry} {us : List (Nat × Str)} {k : Nat} {t : Str} {tk u : Tok} (h : EsOf es us) : EsOf (es.push ⟨hashInt (k : Int), .int (k : Int) tk, .str t u⟩) (us ++ [(k, t)]) := by
  obtain ⟨h1, h2⟩ := h
  refine ⟨by simp [h1], fun j k' t' hj => ?_⟩
  rcases Nat.lt_trichotomy j us.length with c | c | c
  · rw [List.getElem?_append_left c] at hj
    obtain ⟨a, b, e⟩ := h2 j k' t' hj
    exact ⟨a, b, by rw [Array.getElem?_push, if_neg (by omega)]; exact e⟩
  · subst c
    simp at hj
    obtain ⟨rfl, rfl⟩ := hj
    exact ⟨tk, u, by rw [← h1]; simp⟩
  · rw [List.getElem?_eq_none (by simp; omega)] at hj
    cases hj
theorem DueIn.mono {news news' : List (Addr × Obj)} {items : Array Value} {us : List (Nat × Str)} (h : DueIn news items us) (hs : ∀ p ∈ news, p.2.cls = .type "tuple" → p ∈ news') : DueIn news' items us :=
  ⟨h.1, fun j k t hj => let ⟨T, tk, u, o, n, a, b, c, d⟩ := h.2 j k t hj; ⟨T, tk, u, o, n, a, hs _ b c, c, d⟩⟩
theorem DueIn.push {news : List (Addr × Obj)} {items : Array Value} {us : List (Nat × Str)} {k : Nat} {t : Str} {tk u : Tok} {T : Addr} {o : Obj} {n : Nat} (h : DueIn news items us) (hT : (T, o) ∈ news) (hc : o.cls = .type "tuple") (hd : o.data = .seq #[.int (k : Int) tk, .str t u] n) : DueIn news (items.push (.ref T)) (us ++ [(k, t)]) := by
  obtain ⟨h1, h2⟩ := h
  refine ⟨by simp [h1], fun j k' t' hj => ?_⟩
  rcases Nat.lt_trichotomy j us.length with c | c | c
  · rw [List.getElem?_append_left c] at hj
    obtain ⟨T', a, b, o', n', e, r⟩ := h2 j k' t' hj
    exact ⟨T', a, b, o', n', by rw [Array.getElem?_push, if_neg (by omega)]; exact e, r⟩
  · subst c
    simp at hj
    obtain ⟨rfl, rfl⟩ := hj
    exact ⟨T, tk, u, o, n, by rw [← h1]; simp, hT, hc, hd⟩
  · rw [List.getElem?_eq_none (by simp; omega)] at hj
    cases hj
theorem EsOf.keys {es : Array DictEntry} {us : List (Nat × Str)} (h : EsOf es us) : IntKeys es := by
  obtain ⟨h1, h2⟩ := h
  intro e he
  obtain ⟨j, hj, rfl⟩ := Array.mem_iff_getElem.mp he
  obtain ⟨tk, u, e⟩ := h2 j us[j].1 us[j].2 (List.getElem?_eq_getElem (by omega))
  rw [Array.getElem?_eq_getElem hj] at e
  have e := Option.some.inj e
  rw [e]
  exact ⟨_, _, rfl, rfl⟩
/-- the pairs of a list that is due -/
theorem DueIn.pairs {news : List (Addr × Obj)} {items : Array Value} {us : List (Nat × Str)} {h₀ h : Heap} {L : Addr} (D : DueIn news items us) (N : News h₀ L h news) :
    ∃ ps : List (Int × Value), PairsAt h items ps ∧ ps.length = us.length ∧ ∀ (j k : Nat) (t : Str), us[j]? = some (k, t) → ∃ u, ps[j]? = some ((k : Int), .str t u) := by
  obtain ⟨h1, h2⟩ := D
  have key : ∀ j : Fin us.length, ∃ u T tk, items[j.1]? = some (.ref T) ∧ h.IsTuple T #[.int (us[j.1].1 : Int) tk, .str us[j.1].2 u] := fun j => by
    obtain ⟨T, tk, u, o, n, a, b, c, d⟩ := h2 j.1 us[j.1].1 us[j.1].2 (List.getElem?_eq_getElem j.2)
    exact ⟨u, T, tk, a, o, N.get b, c, n, d⟩
  refine ⟨List.ofFn fun j : Fin us.length => ((us[j.1].1 : Int), Value.str us[j.1].2 (Classical.choose (key j))), ⟨by simp [h1], fun j hj => ?_⟩, by simp, fun j k t hj => ?_⟩
  · rw [List.length_ofFn] at hj
    obtain ⟨T, tk, a, b⟩ := Classical.choose_spec (key ⟨j, hj⟩)
    exact ⟨T, tk, a, by rw [List.getElem_ofFn]; exact b⟩
  · obtain ⟨hj', e⟩ := List.getElem?_eq_some_iff.mp hj
    refine ⟨Classical.choose (key ⟨j, hj'⟩), ?_⟩
    rw [List.getElem?_ofFn, dif_pos hj']
    simp only [e]
/-- an octet that is not laid yet, or the first that is -/
theorem laid_or {es : Array DictEntry} {us : List (Nat × Str)} {ps : List (Int × Value)} (hE : EsOf es us) (hl : ps.length = us.length) (hP : ∀ (j k : Nat) (t : Str), us[j]? = some (k, t) → ∃ u, ps[j]? = some ((k : Int), .str t u)) (c : Nat) :
    (picks (c : Int) ps = [] ∧ es.findIdx? (fun e => Value.isInt (c : Int) e.key) = none) ∨
      ∃ (t : Str) (u u' : Tok) (r : List Value) (i : Nat), picks (c : Int) ps = .str t u :: r ∧ es.findIdx? (fun e => Value.isInt (c : Int) e.key) = some i ∧ es[i]?.map (·.val) = some (.str t u') := by
  obtain ⟨h1, h2⟩ := hE
  cases hf : us.findIdx? (fun p => p.1 == c) with
  | none =>
    left
    rw [List.findIdx?_eq_none_iff] at hf
    constructor
    · unfold picks
      rw [List.map_eq_nil_iff, List.filter_eq_nil_iff]
      intro p hp
      obtain ⟨j, hj, rfl⟩ := List.mem_iff_getElem.mp hp
      have hj' : j < us.length := by omega
      obtain ⟨u, e⟩ := hP j us[j].1 us[j].2 (List.getElem?_eq_getElem hj')
      rw [List.getElem?_eq_getElem hj] at e
      have e := Option.some.inj e
      have := hf us[j] (List.getElem_mem hj')
      rw [e]
      simp at this ⊢
      omega
    · rw [Array.findIdx?_eq_none_iff]
      intro e he
      obtain ⟨j, hj, rfl⟩ := Array.mem_iff_getElem.mp he
      have hj' : j < us.length := by omega
      obtain ⟨tk, u, e⟩ := h2 j us[j].1 us[j].2 (List.getElem?_eq_getElem hj')
      rw [Array.getElem?_eq_getElem hj] at e
      have e := Option.some.inj e
      have := hf us[j] (List.getElem_mem hj')
      rw [e]
      simp [Value.isInt] at this ⊢
      omega
  | some i =>
    right
    obtain ⟨hi, hc, hb⟩ := List.findIdx?_eq_some_iff_getElem.mp hf
    have hc : us[i].1 = c := by simpa using hc
    obtain ⟨u, e⟩ := hP i us[i].1 us[i].2 (List.getElem?_eq_getElem hi)
    obtain ⟨tk', u', e'⟩ := h2 i us[i].1 us[i].2 (List.getElem?_eq_getElem hi)
    have hfind : ps.find? (fun p => p.1 == (c : Int)) = some ((us[i].1 : Int), .str us[i].2 u) := by
      rw [List.find?_eq_some_iff_getElem]
      refine ⟨by simp [hc], i, by omega, (List.getElem?_eq_some_iff.mp e).2, fun j hj => ?_⟩
      have hj' : j < us.length := by omega
      obtain ⟨u₂, e₂⟩ := hP j us[j].1 us[j].2 (List.getElem?_eq_getElem hj')
      have := hb j hj
      rw [(List.getElem?_eq_some_iff.mp e₂).2]
      simp at this ⊢
      omega
    have hhead : (ps.filter fun p => p.1 == (c : Int)).head? = some ((us[i].1 : Int), .str us[i].2 u) := by rw [List.head?_filter]; exact hfind
    obtain ⟨r, hr⟩ : ∃ r, (ps.filter fun p => p.1 == (c : Int)) = ((us[i].1 : Int), .str us[i].2 u) :: r := by
      cases hq : (ps.filter fun p => p.1 == (c : Int)) with
      | nil => rw [hq] at hhead; cases hhead
      | cons a r => rw [hq] at hhead; cases hhead; exact ⟨r, rfl⟩
    refine ⟨us[i].2, u, u', r.map (·.2), i, ?_, ?_, ?_⟩
    · unfold picks; rw [hr]; rfl
    · rw [Array.findIdx?_eq_some_iff_getElem]
      refine ⟨by omega, ?_, fun j hj => ?_⟩
      · rw [(Array.getElem?_eq_some_iff.mp e').2]; simp [Value.isInt, hc]
      · have hj' : j < us.length := by omega
        obtain ⟨tk₂, u₂, e₂⟩ := h2 j us[j].1 us[j].2 (List.getElem?_eq_getElem hj')
        have := hb j hj
        rw [(Array.getElem?_eq_some_iff.mp e₂).2]
        simp [Value.isInt] at this ⊢
        omega
    · rw [e']; rfl
section
variable {prog : Program} {w : World} {A : Around} {E : Value → Shared → Prop} {s : Shared} {h₀ : Heap} {L : Addr} {news : List (Addr × Obj)}
theorem ne_due {B du lo : Addr} {acc items : Array Value} {cB cd : Nat} {es : Array DictEntry} {us : List (Nat × Str)} {Q : Value → Shared → Prop} (N : News h₀ L s.heap news) (hB : (B, W.listOf acc cB) ∈ news) (hG : Got s.heap lo acc es es.size) (hE : EsOf es us)
    (hu : (du, W.listOf items cd) ∈ news) (hD : DueIn news items us) (hroom : A.units + 10 < cLine) (h : Q (.bool false) s) : wpAny (model prog w) A (compareOp .NotEq (.ref B) (.ref du)) Q E s := by
  obtain ⟨g1, g2⟩ := hG
  obtain ⟨e1, e2⟩ := hE
  obtain ⟨d1, d2⟩ := hD
  have j1 : s.heap.IsList B acc := ⟨_, N.get hB, rfl, _, rfl⟩
  have j2 : s.heap.IsList du items := ⟨_, N.get hu, rfl, _, rfl⟩
  have key := RcNeAt.lists (A := A) (e := fun _ => true) j1 j2 (by omega) (by omega) (fun j hj1 hj2 => by
    have hj : j < us.length := by omega
    obtain ⟨tk, u, ee⟩ := e2 j us[j].1 us[j].2 (List.getElem?_eq_getElem hj)
    obtain ⟨T, tk', u', o, n, a, b, c, d⟩ := d2 j us[j].1 us[j].2 (List.getElem?_eq_getElem hj)
    obtain ⟨T', a', _, b'⟩ := g2 j _ (by omega) ee
    have q1 : acc[j] = .ref T' := (Array.getElem?_eq_some_iff.mp a').2
    have q2 : items[j] = .ref T := (Array.getElem?_eq_some_iff.mp a).2
    rw [q1, q2]
    by_cases hne : T' = T
    · rw [hne]; exact EqAt.same _
    refine EqAt.of_refs hne ?_
    have t1 : s.heap.IsTuple T' #[.int (us[j].1 : Int) tk, .str us[j].2 u] := ⟨_, b', rfl, _, rfl⟩
    have t2 : s.heap.IsTuple T #[.int (us[j].1 : Int) tk', .str us[j].2 u'] := ⟨o, N.get b, c, n, d⟩
    have := RcAt.tuples (A := A.in1) (e := fun _ => true) t1 t2 (by show A.units + 1 < cLine; omega) (fun i h1 h2 => by
      match i, h1, h2 with
      | 0, _, _ => simpa using EqAt.int_int (A := A.in1.in1) (s := s) (us[j].1 : Int) tk (us[j].1 : Int) tk'
      | 1, _, _ => simpa using EqAt.str_str (A := A.in1.in1) (s := s) us[j].2 u us[j].2 u')
    exact this)
  refine key prog w E Q ?_
  rw [show (!(List.range acc.size).all fun _ => true) = false by simp]
  exact h
end
end Mine

end PartE4
section PartA4
open PySem PySem.W PyProof.Rows PySem.Calls
set_option Elab.async false
namespace Mine
def lawStmt : Stmt := match Challenge.pw_dn0015_04.main.body with
  | [_, _, _, _, _, _, _, _, s] => s
  | _ => .Pass ⟨0, 0, 0, 0⟩
def bodyOf : Stmt → List Stmt
  | .FunctionDef _ _ b _ _ _ _ _ _ _ => b
  | .For _ _ b _ _ => b
  | _ => []
def scopeOf : Stmt → Scope
  | .FunctionDef _ _ _ _ _ _ sc _ _ _ => sc
  | _ => { kind := .function, names := [], isGenerator := false, isCoroutine := false, more := [] }
def nth : Nat → List Stmt → Stmt
  | 0, s :: _ => s
  | n + 1, _ :: r => nth n r
  | _, [] => .Pass ⟨0, 0, 0, 0⟩
def forStmt : Stmt := nth 3 (bodyOf lawStmt)
def turnAt (n : Nat) : Stmt := nth n (bodyOf forStmt)
abbrev lawEnv (L fa : Addr) (cdv : Value) : Env := envOfC (Str.ofString "law") (scopeOf lawStmt) L fa cdv
/-- the frame's names in the loop -/
abbrev mm (kn : Option Value) (du x : Addr) (m₀ : Str → Option Value) : Str → Option Value := fun y => if y = Str.ofString "known" then kn else if y = Str.ofString "due" then some (.ref du) else if y = Str.ofString "table" then some (.ref x) else m₀ y
theorem mm_known {kn : Option Value} {v : Value} {du x : Addr} {m₀ : Str → Option Value} : (fun y => if y = Str.ofString "known" then some v else mm kn du x m₀ y) = mm (some v) du x m₀ := by
  funext y
  by_cases h : y = Str.ofString "known" <;> simp [mm, h]
theorem mem_upd_ne {x : Addr} {o : Obj} {p : Addr × Obj} {news : List (Addr × Obj)} (h : p ∈ news) (hx : p.1 ≠ x) : p ∈ upd x o news := List.mem_map.mpr ⟨_, h, by simp [hx]⟩
section
variable {prog : Program} {w : World} {A : Around} {E : Value → Shared → Prop} {s : Shared} {h₀ : Heap} {L : Addr} {m : Str → Option Value} {news : List (Addr × Obj)}
theorem append_N {D : Addr} {its : Array Value} {n : Nat} {v : Value} {Q : Value → Shared → Prop} (F : Fr h₀ L s.heap m) (N : News h₀ L s.heap news) (hD : (D, W.listOf its n) ∈ news) (hz : its.size ≤ 1000000)
    (h : ∀ h', Fr h₀ L h' m → News h₀ L h' (upd D (W.listOf (its.push v) (n + 1)) news) → Q .none { s with heap := h' }) : wpAny (model prog w) A (call (.builtin "list.append") [.ref D, v]) Q E s :=
  append_at (hsz := by rw [sizeLine_eq]; omega) (N.get hD) fun h' hs ho => h h' (F.update N hD hs) (N.update hD hs ho)
end
theorem allLt_mem {d : Addr} {q : Addr × Obj} : ∀ {l : List (Addr × Obj)}, AllLt d l → q ∈ l → q.1 < d
  | _ :: _, h, .head _ => h.1
  | _ :: _, h, .tail _ hq => allLt_mem h.2 hq
theorem two_ret {c : Nat} {u : Tok} {x du D : Addr} {items : Array Value} {n : Nat} {h₀ : Heap} {L : Addr} {m₀ : Str → Option Value} {news : List (Addr × Obj)} {s : Shared} {Q : Flow → Shared → Prop}
    (hret : ∀ K Tu tok h' tk news', Fr h₀ L h' (mm (some (.ref K)) du x m₀) → News h₀ L h' news' → (∀ q ∈ news, q.1 ≠ du → q ∈ news') → (K, W.listOf #[.str (word c) tok] 0) ∈ news' → (du, W.listOf (items.push (.ref Tu)) (n + 1)) ∈ news' → (Tu, ({ cls := .type "tuple", data := .seq #[.int (c : Int) u, .str (word c) tok] } : Obj)) ∈ news' → Q .next { s with heap := h', toks := tk })
    {K Tu l : Addr} {tok : Tok} {h' : Heap} {tk : Nat} {lo : Obj} (F : Fr h₀ L h' (fun y => if y = Str.ofString "known" then some (.ref K) else mm (some (.ref D)) du x m₀ y))
    (N : News h₀ L h' (upd du (W.listOf (items.push (.ref Tu)) (n + 1)) ((Tu, ({ cls := .type "tuple", data := .seq #[.int (c : Int) u, .str (word c) tok] } : Obj)) :: (K, W.listOf #[.str (word c) tok] 0) :: (l, lo) :: news))) (hmu : (du, W.listOf items n) ∈ news)
    (a1 : l < K ∧ AllLt K news) (a2 : K < Tu ∧ l < Tu ∧ AllLt Tu news) : Q .next { s with heap := h', toks := tk } := by
  rw [mm_known] at F
  have k1 : du < K := allLt_mem a1.2 hmu
  have k2 : du < Tu := allLt_mem a2.2.2 hmu
  refine hret K Tu tok h' tk _ F N (fun q hq hd => mem_upd_ne (.tail _ (.tail _ (.tail _ hq))) hd) (mem_upd_ne (.tail _ (.head _)) (Nat.ne_of_gt k1)) (mem_upd (.tail _ (.tail _ (.tail _ hmu)))) (mem_upd_ne (.head _) (Nat.ne_of_gt k2))
section
local macro_rules | `(tactic| k_mem) => `(tactic| assumption)
local macro_rules | `(tactic| walk_at "call ref") => `(tactic| (k_here; (with_reducible show wpAny _ _ (call (Value.ref 42) [Value.int _ _]) _ _ _); k_dflt (refine' word_any ?y0 ?y1 ?y2 ?y3 ?y4 ?y5 ?y6 ?y7 ?y8 ?y9 ?_; (case y6 => exact rfl); (case y7 => exact rfl); (case y8 => exact rfl); (case y0 => assumption); (case y1 => k_asm); (case y2 => k_asm); (case y3 => k_asm); (case y4 => k_asm); (case y5 => k_asm); (case y9 => k_room)); intro t8 h8 k8 F8 N8; (try k_sweep)))
local macro_rules | `(tactic| walk_at "call builtin:list.append") => `(tactic| (k_here; k_dflt (refine' append_N ?y1 ?y2 ?y3 ?y4 ?_; (case y1 => k_asm); (case y2 => k_asm); (case y3 => k_mem); (case y4 => omega)); intro h8 F8 N8; (try k_sweep)))
set_option maxRecDepth 100000 in
set_option maxHeartbeats 8000000 in
theorem two_new {w : World} {p : Program} {loose : List Str} {mean : ExcName → Option Value} {mg mb : Str → Option Value} {c : Nat} {u : Tok} {x du D : Addr} {items : Array Value} {n : Nat} {oc : Obj} (hc : c < 256) (hz : items.size ≤ 1000)
    {h₀ : Heap} {L fa : Addr} {cdv : Value} {m₀ : Str → Option Value} {news : List (Addr × Obj)} {s : Shared} {Q : Flow → Shared → Prop} {E : Value → Shared → Prop}
    (B : Below callerA h₀ [] h₀) (F : Fr h₀ L s.heap (mm (some (.ref D)) du x m₀)) (X : (hd.heap_39 w.params).In h₀) (N : News h₀ L s.heap news) (T : Top p loose mean mg mb h₀)
    (hmD : (D, W.listOf #[] 0) ∈ news) (hmu : (du, W.listOf items n) ∈ news) (hmc : (L + 1, oc) ∈ news) (hoc : oc.data = .cell (some (.int (c : Int) u)))
    (hret : ∀ K Tu tok h' tk news', Fr h₀ L h' (mm (some (.ref K)) du x m₀) → News h₀ L h' news' → (∀ q ∈ news, q.1 ≠ du → q ∈ news') → (K, W.listOf #[.str (word c) tok] 0) ∈ news' → (du, W.listOf (items.push (.ref Tu)) (n + 1)) ∈ news' → (Tu, ({ cls := .type "tuple", data := .seq #[.int (c : Int) u, .str (word c) tok] } : Obj)) ∈ news' → Q .next { s with heap := h', toks := tk }) :
      wpAny (model Challenge.rw_dn0015_04.row.prog w) (callerA.deeper (lawEnv L fa cdv)) (exec (turnAt 1) (lawEnv L fa cdv)) Q E s := by
  revert X
  w_top off
  k_fill
  intro X
  have hI0 : IntsAre [] [] := .nil
  change wpAny _ (callerA.deeper (envOfC _ ⟨_, _, _, _, _⟩ _ _ _)) (exec (Stmt.If _ _ _ _) (envOfC _ ⟨_, _, _, _, _⟩ _ _ _)) _ _ _
  k_steps
  exact two_ret hret (by assumption) (by assumption) hmu (by assumption) (by assumption)
end
section
variable {w : World} {A : Around} {E : Value → Shared → Prop} {s : Shared} {h₀ : Heap} {L x dx : Addr} {m : Str → Option Value} {news : List (Addr × Obj)} {es : Array DictEntry} {n : Nat}
theorem sub_miss {p : Program} {loose : List Str} {mean : ExcName → Option Value} {mg mb : Str → Option Value} {c : Nat} {u : Tok} (hc : c < 256) (hk : IntKeys es) (hno : es.findIdx? (fun e => Value.isInt c e.key) = none) (hz : es.size ≤ 100000)
    {env : Env} {outer : List Env} {A₀ : Around} {base : Heap} {value slice : Expr} {Q : Value → Shared → Prop}
    (B : Below A₀ base outer h₀) (F : Fr h₀ L s.heap m) (X : (hd.heap_39 w.params).In h₀) (N : News h₀ L s.heap news) (T : Top p loose mean mg mb h₀) (hA : A.frames = some (env :: outer)) (hf : env.frame = some L) (hke : env.scope.kind = .function) (hroom : A.in1.depth < recursionLimit)
    (hmx : (x, mapObj es n dx) ∈ news) (hmd : (dx, emptyDict) ∈ news)
    (hret : ∀ tok n' h' tk', Fr h₀ L h' m → News h₀ L h' (upd x (mapObj (es.push ⟨hashInt c, .int c u, .str (word c) tok⟩) n' dx) news) → Q (.str (word c) tok) { s with heap := h', toks := tk' })
    (hs : subscripted slice false (.ref x) (.int (c : Int) u) = operate [.ref x, .int (c : Int) u] (getItem (.ref x) (.int (c : Int) u)) := by with_unfolding_all rfl) :
    wpAny (model Challenge.rw_dn0015_04.row.prog w) A (subscriptTail value slice (.ref x) (.int (c : Int) u)) Q E s :=
  sub_of F N X hmx (map_get_miss (N.get hmx) (cls_of (X.keeps F.keep)) (X.keeps F.keep) hk hno
    (miss_any (s := { s with toks := s.toks + 1 }) hc hk hno hz B F X N T hA hf hke hroom hmx hmd hret)) hs
theorem ne_nil {D l : Addr} {v : Value} {r : List Value} {k : Nat} {Q : Value → Shared → Prop} {prog : Program} (N : News h₀ L s.heap news) (hD : (D, W.listOf (v :: r).toArray k) ∈ news) (hl : (l, W.listOf #[] 0) ∈ news) (hu : A.units + 10 < cLine) (h : Q (.bool false) s) :
    wpAny (model prog w) A (compareOp .Eq (.ref D) (.ref l)) Q E s := by
  have j1 : s.heap.IsList D (v :: r).toArray := ⟨_, N.get hD, rfl, _, rfl⟩
  have j2 : s.heap.IsList l #[] := ⟨_, N.get hl, rfl, _, rfl⟩
  exact SeqAt.RcAt.lists_lengths j1 j2 (by simp) (by omega) prog w E Q h
theorem item_0 {D : Addr} {v : Value} {r : List Value} {k : Nat} {u : Tok} {value slice : Expr} {Q : Value → Shared → Prop} {prog : Program} (N : News h₀ L s.heap news) (hD : (D, W.listOf (v :: r).toArray k) ∈ news) (h : Q v s)
    (hs : subscripted slice false (.ref D) (.int 0 u) = operate [.ref D, .int 0 u] (getItem (.ref D) (.int 0 u)) := by with_unfolding_all rfl) :
    wpAny (model prog w) A (subscriptTail value slice (.ref D) (.int 0 u)) Q E s := by
  have j1 : s.heap.IsList D (v :: r).toArray := ⟨_, N.get hD, rfl, _, rfl⟩
  exact tail_any j1.typeIs slot_list_getitem.lookup (wpAny_getItem_list j1 (by decide) (by decide) (by simp) h) hs
end
section
local macro_rules | `(tactic| k_mem) => `(tactic| exact mem_upd_ne (by k_mem) (by assumption))
local macro_rules | `(tactic| k_mem) => `(tactic| assumption)
local macro_rules | `(tactic| walk_at "subscriptTail") => `(tactic| (k_here; (with_reducible show wpAny _ _ (subscriptTail _ _ (Value.ref _) (Value.int _ _)) _ _ _); k_dflt (refine' sub_miss ?y0 ?yk ?yn ?yz ?y1 ?y2 ?y3 ?y4 ?y5 ?y6 ?y7 ?y8 ?y9 ?ya ?yb ?_ ?yc; (case y6 => exact rfl); (case y7 => exact rfl); (case y8 => exact rfl); (case ya => assumption); (case y0 => assumption); (case yk => assumption); (case yn => assumption); (case yz => assumption); (case y1 => k_asm); (case y2 => k_asm); (case y3 => k_asm); (case y4 => k_asm); (case y5 => k_asm); (case y9 => k_room); (case yb => assumption); (case yc => with_unfolding_all rfl)); intro t8 n8 h8 k8 F8 N8; (try k_sweep)))
-- (the walk keeps its lines by the number of them: neighbours must not bear the same number)
local macro_rules | `(tactic| walk_at "no step bears this name") => `(tactic| skip)
local macro_rules | `(tactic| walk_at "subscriptTail Name Constant ref int") => `(tactic| (k_here; k_dflt (refine item_0 (by k_asm) (mem_upd_ne (by assumption) (by assumption)) ?_)))
set_option maxRecDepth 100000 in
set_option maxHeartbeats 8000000 in
theorem three_new {w : World} {p : Program} {loose : List Str} {mean : ExcName → Option Value} {mg mb : Str → Option Value} {c : Nat} {u tok : Tok} {x dx du K : Addr} {es : Array DictEntry} {n : Nat} {oc : Obj} (hc : c < 256) (hk : IntKeys es) (hno : es.findIdx? (fun e => Value.isInt c e.key) = none) (hz : es.size ≤ 100000)
    {h₀ : Heap} {L fa : Addr} {cdv : Value} {m₀ : Str → Option Value} {news : List (Addr × Obj)} {s : Shared} {Q : Flow → Shared → Prop} {E : Value → Shared → Prop}
    (B : Below callerA h₀ [] h₀) (F : Fr h₀ L s.heap (mm (some (.ref K)) du x m₀)) (X : (hd.heap_39 w.params).In h₀) (N : News h₀ L s.heap news) (T : Top p loose mean mg mb h₀)
    (hmK : (K, W.listOf #[.str (word c) tok] 0) ∈ news) (hKx : K ≠ x) (hmx : (x, mapObj es n dx) ∈ news) (hmd : (dx, emptyDict) ∈ news) (hmc : (L + 1, oc) ∈ news) (hoc : oc.data = .cell (some (.int (c : Int) u)))
    (hret : ∀ tok' n' h' tk', Fr h₀ L h' (mm (some (.ref K)) du x m₀) → News h₀ L h' (upd x (mapObj (es.push ⟨hashInt c, .int c u, .str (word c) tok'⟩) n' dx) news) → Q .next { s with heap := h', toks := tk' }) :
      wpAny (model Challenge.rw_dn0015_04.row.prog w) (callerA.deeper (lawEnv L fa cdv)) (exec (turnAt 2) (lawEnv L fa cdv)) Q E s := by
  revert X
  w_top off
  k_fill
  intro X
  have hI0 : IntsAre [] [] := .nil
  change wpAny _ (callerA.deeper (envOfC _ ⟨_, _, _, _, _⟩ _ _ _)) (exec (Stmt.If _ _ _ _) (envOfC _ ⟨_, _, _, _, _⟩ _ _ _)) _ _ _
  k_steps
  all_goals first
    | exact hret _ _ _ _ (by assumption) (by assumption)
    | exact absurd (by assumption : ((word c) != (word c)) = true) (by simp)
end
section
local macro_rules | `(tactic| k_mem) => `(tactic| assumption)
local macro_rules | `(tactic| walk_at "compareOp Eq ref ref") => `(tactic| (k_here; k_dflt (refine' ne_nil ?y1 ?y2 ?y3 ?y4 ?_; (case y1 => k_asm); (case y2 => k_mem); (case y3 => k_mem); (case y4 => ((have hcL9 := cLine_is); (simp only [units_deeper, units_caller]); omega)))))
set_option maxRecDepth 100000 in
set_option maxHeartbeats 8000000 in
theorem two_old {w : World} {p : Program} {loose : List Str} {mean : ExcName → Option Value} {mg mb : Str → Option Value} {x du D : Addr} {v : Value} {r : List Value} {n : Nat}
    {h₀ : Heap} {L fa : Addr} {cdv : Value} {m₀ : Str → Option Value} {news : List (Addr × Obj)} {s : Shared} {Q : Flow → Shared → Prop} {E : Value → Shared → Prop}
    (B : Below callerA h₀ [] h₀) (F : Fr h₀ L s.heap (mm (some (.ref D)) du x m₀)) (X : (hd.heap_39 w.params).In h₀) (N : News h₀ L s.heap news) (T : Top p loose mean mg mb h₀)
    (hmD : (D, W.listOf (v :: r).toArray n) ∈ news)
    (hret : ∀ h' tk, Fr h₀ L h' (mm (some (.ref D)) du x m₀) → News h₀ L h' news → Q .next { s with heap := h', toks := tk }) :
      wpAny (model Challenge.rw_dn0015_04.row.prog w) (callerA.deeper (lawEnv L fa cdv)) (exec (turnAt 1) (lawEnv L fa cdv)) Q E s := by
  revert X
  w_top off
  k_fill
  intro X
  have hI0 : IntsAre [] [] := .nil
  change wpAny _ (callerA.deeper (envOfC _ ⟨_, _, _, _, _⟩ _ _ _)) (exec (Stmt.If _ _ _ _) (envOfC _ ⟨_, _, _, _, _⟩ _ _ _)) _ _ _
  k_steps
  exact hret _ _ (by assumption) (News.tail' (by assumption))
end
section
local macro_rules | `(tactic| k_mem) => `(tactic| assumption)
local macro_rules | `(tactic| walk_at "subscriptTail") => `(tactic| (k_here; (with_reducible show wpAny _ _ (subscriptTail _ _ (Value.ref _) (Value.int _ _)) _ _ _); k_dflt (refine sub_of (by k_asm) (by k_asm) (by k_asm) (by assumption) ?_; refine get_N (by k_asm) (by k_asm) (by k_asm) (by assumption) (by assumption) (by assumption) (by assumption) ?_)))
local macro_rules | `(tactic| walk_at "subscriptTail") => `(tactic| (k_here; (with_reducible show wpAny _ _ (subscriptTail _ _ (Value.ref _) (Value.int 0 _)) _ _ _); k_dflt (refine item_0 (by k_asm) (by assumption) ?_)))
set_option maxRecDepth 100000 in
set_option maxHeartbeats 8000000 in
theorem three_old {w : World} {p : Program} {loose : List Str} {mean : ExcName → Option Value} {mg mb : Str → Option Value} {c : Nat} {t : Str} {u u1 u2 : Tok} {r : List Value} {i k : Nat} {x dx du D : Addr} {es : Array DictEntry} {n : Nat} {oc : Obj} (hk : IntKeys es) (hf : es.findIdx? (fun e => Value.isInt c e.key) = some i) (hv : es[i]?.map (·.val) = some (.str t u2))
    {h₀ : Heap} {L fa : Addr} {cdv : Value} {m₀ : Str → Option Value} {news : List (Addr × Obj)} {s : Shared} {Q : Flow → Shared → Prop} {E : Value → Shared → Prop}
    (B : Below callerA h₀ [] h₀) (F : Fr h₀ L s.heap (mm (some (.ref D)) du x m₀)) (X : (hd.heap_39 w.params).In h₀) (N : News h₀ L s.heap news) (T : Top p loose mean mg mb h₀)
    (hmD : (D, W.listOf (.str t u1 :: r).toArray k) ∈ news) (hmx : (x, mapObj es n dx) ∈ news) (hmc : (L + 1, oc) ∈ news) (hoc : oc.data = .cell (some (.int (c : Int) u)))
    (hret : ∀ h' tk', Fr h₀ L h' (mm (some (.ref D)) du x m₀) → News h₀ L h' news → Q .next { s with heap := h', toks := tk' }) :
      wpAny (model Challenge.rw_dn0015_04.row.prog w) (callerA.deeper (lawEnv L fa cdv)) (exec (turnAt 2) (lawEnv L fa cdv)) Q E s := by
  revert X
  w_top off
  k_fill
  intro X
  have hI0 : IntsAre [] [] := .nil
  change wpAny _ (callerA.deeper (envOfC _ ⟨_, _, _, _, _⟩ _ _ _)) (exec (Stmt.If _ _ _ _) (envOfC _ ⟨_, _, _, _, _⟩ _ _ _)) _ _ _
  k_steps
  all_goals first
    | exact hret _ _ (by assumption) (by assumption)
    | exact absurd (by assumption : (t != t) = true) (by simp)
end
section
local macro_rules | `(tactic| k_mem) => `(tactic| assumption)
local macro_rules | `(tactic| walk_at "getMethod ref") => `(tactic| (k_here; k_dflt (refine map_method (by k_asm) (by k_asm) (by k_asm) (by assumption) (by assumption) ?_)))
local macro_rules | `(tactic| walk_at "call builtin:dict.items") => `(tactic| (k_here; k_dflt (refine map_items (by k_asm) (by k_asm) (by k_asm) (by assumption) (by assumption) ?_); intro D' h' F' N' l1; (try k_sweep)))
local macro_rules | `(tactic| walk_at "call type:list") => `(tactic| (k_here; k_dflt (refine map_list (by rfl) (by k_asm) (by k_asm) (by k_mem) (by k_mem) (by assumption) ?_); intro B' lo' h' tk' acc' c' F' N' G' l1; (try k_sweep)))
local macro_rules | `(tactic| walk_at "compareOp NotEq ref ref") => `(tactic| (k_here; k_dflt (refine' ne_due ?y1 ?y2 ?y3 ?y4 ?y5 ?y6 ?y7 ?_; (case y1 => k_asm); (case y2 => k_mem); (case y3 => assumption); (case y4 => assumption); (case y5 => k_mem); (case y6 => exact DueIn.mono (by assumption) (fun p hp _ => .tail _ (.tail _ hp))); (case y7 => ((have hcL9 := cLine_is); (simp only [units_deeper, units_caller]); omega)))))
set_option maxRecDepth 100000 in
set_option maxHeartbeats 8000000 in
theorem four_any {w : World} {p : Program} {loose : List Str} {mean : ExcName → Option Value} {mg mb : Str → Option Value} {us : List (Nat × Str)} {items : Array Value} {k : Nat} {x dx du : Addr} {kn : Option Value} {es : Array DictEntry} {n : Nat} (hE : EsOf es us) (hz : es.size ≤ 1000000) (hsm : (x == sysModules) = false)
    {h₀ : Heap} {L fa : Addr} {cdv : Value} {m₀ : Str → Option Value} {news : List (Addr × Obj)} {s : Shared} {Q : Flow → Shared → Prop} {E : Value → Shared → Prop}
    (B : Below callerA h₀ [] h₀) (F : Fr h₀ L s.heap (mm kn du x m₀)) (X : (hd.heap_39 w.params).In h₀) (N : News h₀ L s.heap news) (T : Top p loose mean mg mb h₀)
    (hmx : (x, mapObj es n dx) ∈ news) (hmd : (dx, emptyDict) ∈ news) (hmu : (du, W.listOf items k) ∈ news) (hD : DueIn news items us)
    (hret : ∀ h' tk', Fr h₀ L h' (mm kn du x m₀) → News h₀ L h' news → Q .next { s with heap := h', toks := tk' }) :
      wpAny (model Challenge.rw_dn0015_04.row.prog w) (callerA.deeper (lawEnv L fa cdv)) (exec (turnAt 3) (lawEnv L fa cdv)) Q E s := by
  revert X
  w_top off
  k_fill
  intro X
  have hI0 : IntsAre [] [] := .nil
  change wpAny _ (callerA.deeper (envOfC _ ⟨_, _, _, _, _⟩ _ _ _)) (exec (Stmt.If _ _ _ _) (envOfC _ ⟨_, _, _, _, _⟩ _ _ _)) _ _ _
  k_steps
  exact hret _ _ (by assumption) (News.tail' (News.tail' (by assumption)))
end
end Mine

end PartA4
section PartT4
open PySem PySem.W PyProof.Rows PySem.Calls
set_option Elab.async false
namespace Mine
set_option maxRecDepth 100000 in
theorem one_any {w : World} {c : Nat} {u : Tok} {x du : Addr} {kn : Option Value} {items : Array Value} {k : Nat} {oc : Obj} {ps : List (Int × Value)}
    {h₀ : Heap} {L fa : Addr} {cdv : Value} {m₀ : Str → Option Value} {news : List (Addr × Obj)} {s : Shared} {Q : Flow → Shared → Prop} {E : Value → Shared → Prop}
    (F : Fr h₀ L s.heap (mm kn du x m₀)) (N : News h₀ L s.heap news) (hmu : (du, W.listOf items k) ∈ news) (hmc : (L + 1, oc) ∈ news) (hoc : oc.data = .cell (some (.int (c : Int) u))) (hp : PairsAt s.heap items ps) (hsz : ps.length ≤ 1000000)
    (hret : ∀ D h' tk, Fr h₀ L h' (mm (some (.ref D)) du x m₀) → News h₀ L h' ((D, LCg.lst (picks (c : Int) ps)) :: news) → (∀ p ∈ news, p.1 ≠ D) → Q .next { s with heap := h', toks := tk }) :
      wpAny (model Challenge.rw_dn0015_04.row.prog w) (callerA.deeper (lawEnv L fa cdv)) (exec (turnAt 0) (lawEnv L fa cdv)) Q E s := by
  change wpAny _ (callerA.deeper (envOfC _ ⟨_, _, _, _, _⟩ _ _ _)) (exec (Stmt.Assign [Expr.Name _ _] (Expr.ListComp (Expr.Name _ _) [⟨Expr.Tuple [Expr.Name _ _, Expr.Name _ _] _ _, Expr.Name _ _, [Expr.Compare (Expr.Name _ _) [CmpOp.Eq] [Expr.Name _ _] _], 0⟩] ⟨_, _, _, _, _⟩ _) _) (envOfC _ ⟨_, _, _, _, _⟩ _ _ _)) _ _ _
  refine pick_any (L := L) (c := L + 1) (ax := du) (ol := W.listOf items k) (oc := oc) (items := items) (ps := ps) (oz := (c : Int)) (tz := u) rfl rfl F N (by with_unfolding_all rfl) (by with_unfolding_all rfl) (by decide) rfl rfl (by decide) rfl rfl (by decide) (fun _ => rfl) rfl rfl rfl rfl rfl rfl rfl rfl hmu ⟨rfl, k, rfl⟩ hp hmc hoc hsz ?_
  intro D h' tk F' N' hne _
  rw [mm_known] at F'
  exact hret D h' tk F' N' hne
/-- what the loop keeps -/
structure Held (news : List (Addr × Obj)) (x dx du : Addr) (us : List (Nat × Str)) : Prop where
  ex : ∃ es n items k, (x, mapObj es n dx) ∈ news ∧ (du, W.listOf items k) ∈ news ∧ EsOf es us ∧ DueIn news items us
  md : (dx, emptyDict) ∈ news
set_option maxRecDepth 100000 in
theorem turn_any {w : World} {p : Program} {loose : List Str} {mean : ExcName → Option Value} {mg mb : Str → Option Value} {c : Nat} {u : Tok} {x dx du : Addr} {us : List (Nat × Str)} {kn : Option Value} {oc : Obj} (hc : c < 256) (hlen : us.length ≤ 900) (hsm : (x == sysModules) = false)
    {h₀ : Heap} {L fa : Addr} {cdv : Value} {m₀ : Str → Option Value} {news : List (Addr × Obj)} {s : Shared} {Q : Flow → Shared → Prop} {E : Value → Shared → Prop}
    (B : Below callerA h₀ [] h₀) (F : Fr h₀ L s.heap (mm kn du x m₀)) (X : (hd.heap_39 w.params).In h₀) (N : News h₀ L s.heap news) (T : Top p loose mean mg mb h₀)
    (hH : Held news x dx du us) (hmc : (L + 1, oc) ∈ news) (hoc : oc.data = .cell (some (.int (c : Int) u)))
    (hret : ∀ kn' us' h' tk news', Fr h₀ L h' (mm kn' du x m₀) → News h₀ L h' news' → Held news' x dx du us' → us'.length ≤ us.length + 1 → (∀ q ∈ news, q.1 ≠ x → q.1 ≠ du → q ∈ news') → Q .next { s with heap := h', toks := tk }) :
      wpAny (model Challenge.rw_dn0015_04.row.prog w) (callerA.deeper (lawEnv L fa cdv)) (execs (bodyOf forStmt) (lawEnv L fa cdv)) Q E s := by
  obtain ⟨⟨es, n, items, k, hmx, hmu, hE, hD⟩, hmd⟩ := hH
  obtain ⟨ps, hp, hl, hP⟩ := hD.pairs N
  have hes : es.size = us.length := hE.1
  have hits : items.size = us.length := hD.1
  have hxu : x ≠ du := News.ne_of_cls N hmx hmu (by simp)
  have hdu : dx ≠ du := News.ne_of_cls N hmd hmu (by simp)
  have hdx : dx ≠ x := News.ne_of_cls N hmd hmx (by simp)
  have hcu : L + 1 ≠ du := News.twoPlaces N hmc hmu (fun e => by have e : oc = _ := e; rw [e] at hoc; cases hoc)
  have hcx : L + 1 ≠ x := News.twoPlaces N hmc hmx (fun e => by have e : oc = _ := e; rw [e] at hoc; cases hoc)
  change wpAny _ _ (execs [turnAt 0, turnAt 1, turnAt 2, turnAt 3] _) _ _ _
  refine wpAny_execs_cons (one_any F N hmu hmc hoc hp (by omega) fun D h1 tk1 F1 N1 hne1 => ?_)
  rcases laid_or hE hl hP c with ⟨hpk, hno⟩ | ⟨t, u1, u2, r, i, hpk, hf, hv⟩
  · rw [hpk] at N1
    refine wpAny_execs_cons (two_new hc (by omega) B F1 X N1 T (.head _) (.tail _ hmu) (.tail _ hmc) hoc fun K Tu tok h2 tk2 news2 F2 N2 keep2 mK mu2 mT => ?_)
    have mx2 := keep2 _ (.tail _ hmx) hxu
    have md2 := keep2 _ (.tail _ hmd) hdu
    have mc2 := keep2 _ (.tail _ hmc) hcu
    have hKx : K ≠ x := News.ne_of_cls N2 mK mx2 (by simp)
    have hTx : Tu ≠ x := News.ne_of_cls N2 mT mx2 (by simp)
    have hD2 : DueIn news2 items us := hD.mono fun q hq hcls => keep2 q (.tail _ hq) (News.ne_of_cls N hq hmu (by rw [hcls]; simp))
    have hD2 : DueIn news2 (items.push (.ref Tu)) (us ++ [(c, word c)]) := hD2.push mT rfl rfl
    refine wpAny_execs_cons (three_new hc hE.keys hno (by omega) B F2 X N2 T mK hKx mx2 md2 mc2 hoc fun tok' n' h3 tk3 F3 N3 => ?_)
    have mu3 := mem_upd_ne (o := mapObj (es.push ⟨hashInt c, .int c u, .str (word c) tok'⟩) n' dx) mu2 (Ne.symm hxu)
    have md3 := mem_upd_ne (o := mapObj (es.push ⟨hashInt c, .int c u, .str (word c) tok'⟩) n' dx) md2 hdx
    have mx3 := mem_upd (o' := mapObj (es.push ⟨hashInt c, .int c u, .str (word c) tok'⟩) n' dx) mx2
    have hD3 := hD2.mono (news' := upd x (mapObj (es.push ⟨hashInt c, .int c u, .str (word c) tok'⟩) n' dx) news2) fun q hq hcls => mem_upd_ne hq (News.ne_of_cls N2 hq mx2 (by rw [hcls]; simp))
    have hE3 : EsOf (es.push ⟨hashInt c, .int c u, .str (word c) tok'⟩) (us ++ [(c, word c)]) := hE.push
    refine wpAny_execs_cons (four_any hE3 (by simp; omega) hsm B F3 X N3 T mx3 md3 mu3 hD3 fun h4 tk4 F4 N4 => ?_)
    refine wpAny_execs_nil ?_
    exact hret _ _ h4 tk4 _ F4 N4 ⟨⟨_, _, _, _, mx3, mu3, hE3, hD3⟩, md3⟩ (by simp) fun q hq h1 h2 => mem_upd_ne (keep2 q (.tail _ hq) h2) h1
  · rw [hpk] at N1
    refine wpAny_execs_cons (two_old B F1 X N1 T (.head _) fun h2 tk2 F2 N2 => ?_)
    refine wpAny_execs_cons (three_old hE.keys hf hv B F2 X N2 T (.head _) (.tail _ hmx) (.tail _ hmc) hoc fun h3 tk3 F3 N3 => ?_)
    have hD3 := hD.mono (news' := (D, LCg.lst (.str t u1 :: r)) :: news) fun q hq _ => .tail _ hq
    refine wpAny_execs_cons (four_any hE (by omega) hsm B F3 X N3 T (.tail _ hmx) (.tail _ hmd) (.tail _ hmu) hD3 fun h4 tk4 F4 N4 => ?_)
    refine wpAny_execs_nil ?_
    exact hret _ us h4 tk4 _ F4 N4 ⟨⟨_, _, _, _, .tail _ hmx, .tail _ hmu, hE, hD3⟩, .tail _ hmd⟩ (by omega) fun q hq _ _ => .tail _ hq
end Mine

end PartT4
section PartL4
open PySem PySem.W PyProof.Rows PySem.Calls
set_option Elab.async false
namespace Mine
theorem DueIn.mono2 {news news' : List (Addr × Obj)} {items : Array Value} {us : List (Nat × Str)} (h : DueIn news items us) (hs : ∀ p ∈ news, p.2.cls = .type "tuple" → (∃ a n, p.2.data = .seq a n) → p ∈ news') : DueIn news' items us :=
  ⟨h.1, fun j k t hj => let ⟨T, tk, u, o, n, a, b, c, d⟩ := h.2 j k t hj; ⟨T, tk, u, o, n, a, hs _ b c ⟨_, _, d⟩, c, d⟩⟩
/-- an object is laid anew that is none of the kept ones -/
theorem Held.upd {h₀ h : Heap} {L a x dx du : Addr} {oa o' : Obj} {news : List (Addr × Obj)} {us : List (Nat × Str)} (H : Held news x dx du us) (N : News h₀ L h news) (ha : (a, oa) ∈ news) (hd : ∀ es n, oa.data ≠ .dict es n) (hs : ∀ v n, oa.data ≠ .seq v n) : Held (Mine.upd a o' news) x dx du us := by
  obtain ⟨⟨es, n, items, k, hmx, hmu, hE, hD⟩, hmd⟩ := H
  refine ⟨⟨es, n, items, k, mem_upd_ne hmx ?_, mem_upd_ne hmu ?_, hE, hD.mono2 fun p hp _ hq => mem_upd_ne hp ?_⟩, mem_upd_ne hmd ?_⟩
  · exact News.twoPlaces N hmx ha fun e => hd es n (by have e : _ = oa := e; rw [← e])
  · exact News.twoPlaces N hmu ha fun e => hs _ _ (by have e : _ = oa := e; rw [← e])
  · obtain ⟨v, n', hv⟩ := hq
    exact News.twoPlaces N hp ha fun e => hs v n' (by have e : _ = oa := e; rw [← e]; exact hv)
  · exact News.twoPlaces N hmd ha fun e => hd #[] 0 (by have e : _ = oa := e; rw [← e])
set_option maxRecDepth 100000 in
theorem loop_any {w : World} {p : Program} {loose : List Str} {mean : ExcName → Option Value} {mg mb : Str → Option Value} {x dx du ax : Addr} {us : List (Nat × Str)} {kn : Option Value} {oc : Obj} {v₀ : Option Value} {vs : List Value} {ks : List Int} {na : Nat} (hsm : (x == sysModules) = false)
    {h₀ : Heap} {L fa : Addr} {cdv : Value} {m₀ : Str → Option Value} {news : List (Addr × Obj)} {s : Shared} {Q : Flow → Shared → Prop} {E : Value → Shared → Prop} {pt : Pos}
    (B : Below callerA h₀ [] h₀) (F : Fr h₀ L s.heap (mm kn du x m₀)) (X : (hd.heap_39 w.params).In h₀) (N : News h₀ L s.heap news) (T : Top p loose mean mg mb h₀)
    (hH : Held news x dx du us) (hus : us.length ≤ 1) (hmc : (L + 1, oc) ∈ news) (hoc : oc.data = .cell v₀) (hma : (ax, W.listOf vs.toArray na) ∈ news) (hau : ax ≠ du) (hI : IntsAre vs ks) (hks : ∀ k ∈ ks, 0 ≤ k ∧ k < 256) (hlen : ks.length ≤ 800)
    (hret : ∀ kn' h' tk, Fr h₀ L h' (mm kn' du x m₀) → Q .next { s with heap := h', toks := tk }) :
      wpAny (model Challenge.rw_dn0015_04.row.prog w) (callerA.deeper (lawEnv L fa cdv)) (pyIter (.ref ax)) (fun it s₂ => codeAny (model Challenge.rw_dn0015_04.row.prog w) (callerA.deeper (lawEnv L fa cdv)) (.forLoop (.Name (Str.ofString "octet") pt) it (bodyOf forStmt) [] (lawEnv L fa cdv))
        (fun r s' => match r with | .ok f => Q f s' | .error e => cameBackBy (model Challenge.rw_dn0015_04.row.prog w) (callerA.deeper (lawEnv L fa cdv)) (lawEnv L fa cdv) E e s') s₂) E s := by
  have hvl : vs.length = ks.length := IntsAre.length hI
  refine wpAny_pyIter_list (items := vs.toArray) ⟨_, N.get hma, rfl, _, rfl⟩ ?_
  have N0 := News.push F N ({ cls := .type "list_iterator", data := .fields #[.ref ax, .int 0 0] } : Obj)
  have F0 := F.push ({ cls := .type "list_iterator", data := .fields #[.ref ax, .int 0 0] } : Obj)
  have hH0 : Held ((s.heap.objs.size, ({ cls := .type "list_iterator", data := .fields #[.ref ax, .int 0 0] } : Obj)) :: news) x dx du us := by
    obtain ⟨⟨es, n, items, k, a, b, c, d⟩, e⟩ := hH
    exact ⟨⟨es, n, items, k, .tail _ a, .tail _ b, c, d.mono fun q hq _ => .tail _ hq⟩, .tail _ e⟩
  generalize s.heap.objs.size = I at N0 hH0
  refine codeAny_forLoop
    (fun k s' => ∃ h tk i kn us news' oi oc' v', s' = { s with heap := h, toks := tk } ∧ i ≤ ks.length ∧ k = ks.length + 1 - i ∧ Fr h₀ L h (mm kn du x m₀) ∧ News h₀ L h news' ∧ Held news' x dx du us ∧ us.length ≤ i + 1 ∧ (ax, W.listOf vs.toArray na) ∈ news' ∧
      (I, oi) ∈ news' ∧ oi.cls = .type "list_iterator" ∧ oi.data = .fields #[.ref ax, .int i 0] ∧ (L + 1, oc') ∈ news' ∧ oc'.data = .cell v') ?_ (ks.length + 1)
    ⟨_, s.toks, 0, kn, us, _, _, oc, v₀, rfl, Nat.zero_le _, rfl, F0, N0, hH0, hus, .tail _ hma, .head _, rfl, rfl, .tail _ hmc, hoc⟩
  rintro k s' ⟨h, tk, i, kn, us, news', oi, oc', v', rfl, hi, rfl, F1, N1, H1, hu1, ma1, mi1, ci1, di1, mc1, dc1⟩
  have hl : h.IsList ax vs.toArray := ⟨_, N1.get ma1, rfl, _, rfl⟩
  have hit : h.IsListIter I ax i := ⟨oi, N1.get mi1, ci1, di1⟩
  by_cases hlt : i < ks.length
  · have hv : vs.toArray[i]? = some vs[i] := by simp
    obtain ⟨kk, t, ev, ek⟩ := IntsAre.at hI i vs[i] (by simp)
    rw [ev] at hv
    obtain ⟨hk0, hk1⟩ := hks kk (List.mem_of_getElem? ek)
    obtain ⟨c, rfl⟩ : ∃ c : Nat, kk = (c : Int) := ⟨kk.toNat, by omega⟩
    refine wpAny_pyNext_list_item (s := { s with heap := h, toks := tk }) hit hl hv fun h₂ hit₂ hs₂ => ?_
    obtain ⟨oi₂, gi₂, ci₂, di₂⟩ := hit₂
    have F2 := F1.update N1 mi1 hs₂
    have N2 := N1.update mi1 hs₂ gi₂
    have H2 : Held (upd I oi₂ news') x dx du us := H1.upd N1 mi1 (fun _ _ e => by rw [di1] at e; cases e) (fun _ _ e => by rw [di1] at e; cases e)
    have hIc : L + 1 ≠ I := News.twoPlaces N1 mc1 mi1 fun e => by have e : oc' = oi := e; rw [e, di1] at dc1; cases dc1
    have hIa : ax ≠ I := News.twoPlaces N1 ma1 mi1 fun e => by have e : _ = oi := e; rw [← e] at di1; cases di1
    have mc2 := mem_upd_ne (o := oi₂) mc1 hIc
    have ma2 := mem_upd_ne (o := oi₂) ma1 hIa
    have mi2 := mem_upd (o' := oi₂) mi1
    refine wpAny_assign_Name (wpAny_storeName_cell (c := L + 1) (v₀ := v') rfl rfl rfl ⟨oc', N2.get mc2, dc1⟩ fun h₃ hcell₃ hs₃ => ?_)
    obtain ⟨oc₃, gc₃, dc₃⟩ := hcell₃
    have F3 := F2.update N2 mc2 hs₃
    have N3 := N2.update mc2 hs₃ gc₃
    have H3 : Held (upd (L + 1) oc₃ (upd I oi₂ news')) x dx du us := H2.upd N2 mc2 (fun _ _ e => by rw [dc1] at e; cases e) (fun _ _ e => by rw [dc1] at e; cases e)
    have hca : ax ≠ L + 1 := News.twoPlaces N1 ma1 mc1 fun e => by have e : _ = oc' := e; rw [← e] at dc1; cases dc1
    have mi3 := mem_upd_ne (o := oc₃) mi2 (Ne.symm hIc)
    have ma3 := mem_upd_ne (o := oc₃) ma2 hca
    have mc3 := mem_upd (o' := oc₃) mc2
    refine turn_any (c := c) (by omega) (by omega) hsm B F3 X N3 T H3 mc3 dc₃ fun kn' us' h' tk' news'' F4 N4 H4 hl4 keep => ?_
    obtain ⟨⟨es, n, items, k₂, hmx, hmu, _, _⟩, _⟩ := H3
    refine ⟨ks.length + 1 - (i + 1), by omega, h', tk', i + 1, kn', us', news'', oi₂, oc₃, _, rfl, hlt, rfl, F4, N4, H4, by omega, keep _ ma3 ?_ hau, keep _ mi3 ?_ ?_, ci₂, di₂, keep _ mc3 ?_ ?_, dc₃⟩
    · exact News.ne_of_cls N3 ma3 hmx (by simp)
    · exact News.ne_of_cls N3 mi3 hmx (by rw [ci₂]; simp)
    · exact News.ne_of_cls N3 mi3 hmu (by rw [ci₂]; simp)
    · exact News.twoPlaces N3 mc3 hmx fun e => by have e : oc₃ = _ := e; rw [e] at dc₃; cases dc₃
    · exact News.twoPlaces N3 mc3 hmu fun e => by have e : oc₃ = _ := e; rw [e] at dc₃; cases dc₃
  · refine wpAny_pyNext_list_end (s := { s with heap := h, toks := tk }) rfl hit hl (by simp; omega) fun h₂ he₂ => wpAny_execs_nil ?_
    have keepF : Fr h₀ L h₂ (mm kn du x m₀) := by
      have hIn := (N1 _ mi1).2
      exact ⟨F1.ns.at' fun o e => he₂ _ o (Ne.symm hIn.1) e, fun b o e => he₂ b o (fun q => by rw [q, hIn.2] at e; cases e) (F1.keep b o e), F1.above⟩
    exact hret kn h₂ tk keepF
end Mine

end PartL4
section PartM4
open PySem PySem.W PyProof.Rows PySem.Calls
set_option Elab.async false
namespace Mine
section
variable {prog : Program} {w : World} {A : Around} {E : Value → Shared → Prop} {s : Shared} {h₀ : Heap} {L x dx : Addr} {m : Str → Option Value} {news news' : List (Addr × Obj)}
theorem for_own {env : Env} {target iter body pos} {Q : Flow → Shared → Prop} (_F : Fr h₀ L s.heap m)
    (h : wpAny (model prog w) A (eval iter env) (fun x s₁ => wpAny (model prog w) A (pyIter x) (fun it s₂ =>
      codeAny (model prog w) A (.forLoop target it body [] env) (fun r s' => match r with | .ok f => Q f s' | .error e => cameBackBy (model prog w) A env E e s') s₂) E s₁) E s)
    (hs : ∀ x, foldedSetIterable iter env x = pure x := by intro _; rfl) :
    wpAny (model prog w) A (exec (.For target iter body [] pos) env) Q E s := wpAny_For h hs
theorem set_U {P : Params} {k : Int} {t : Tok} {v : Value} {Q : Unit → Shared → Prop} (F : Fr h₀ L s.heap m) (N : News h₀ L s.heap news) (X : (hd.heap_39 P).In h₀) (U : Upd x (mapObj #[] 0 dx) (mapObj #[⟨hashInt k, .int k t, v⟩] 1 dx) news news')
    (h : ∀ h', Fr h₀ L h' m → News h₀ L h' news' → Q () { s with heap := h', toks := s.toks + 1 }) : wpAny (model prog w) A (setItem (.ref x) (.int k t) v) Q E s := by
  obtain ⟨pre, post, rfl, rfl, a, b⟩ := U.split
  have hm : (x, mapObj #[] 0 dx) ∈ pre ++ (x, mapObj #[] 0 dx) :: post := List.mem_append.mpr (.inr (.head _))
  have z := N _ hm
  refine map_set z.1 (cls_of (X.keeps F.keep)) (fun e he => by simp at he) (by simp) (by simp) ?_
  have U' : Heap.SameBut x s.heap (s.heap.update x (Obj.mapDictKeys (·.push ⟨hashInt k, .int k t, v⟩))) := Heap.SameBut.update ..
  have g : (s.heap.update x (Obj.mapDictKeys (·.push ⟨hashInt k, .int k t, v⟩))).get? x = some (mapObj #[⟨hashInt k, .int k t, v⟩] 1 dx) := Heap.get?_update_self _ z.1 rfl
  exact h _ (F.change U' z.2.1 z.2.2) (news_set N a b U' g)
end
theorem ks_in {sc : List Int} : ∀ k ∈ List.map (fun k' : Int => k'.fmod 256) (List.drop 1 sc) ++ [65, 32, 255], 0 ≤ k ∧ k < 256 := by
  intro k hk
  rcases List.mem_append.mp hk with hk | hk
  · obtain ⟨y, _, rfl⟩ := List.mem_map.mp hk
    rw [Int.fmod_eq_emod_of_nonneg _ (by decide)]
    omega
  · simp only [List.mem_cons, List.not_mem_nil, or_false] at hk
    omega
theorem ks_len {sc : List Int} (h : ¬ ((63 : Nat) : Int) < ((sc.length : Nat) : Int)) : (List.map (fun k' : Int => k'.fmod 256) (List.drop 1 sc) ++ [65, 32, 255]).length ≤ 800 := by
  simp only [List.length_append, List.length_map, List.length_drop, List.length_cons, List.length_nil]
  omega
theorem start_mm {du x : Addr} {m₀ : Str → Option Value} : (fun y => if y = Str.ofString "due" then some (.ref du) else if y = Str.ofString "table" then some (.ref x) else m₀ y) = mm (m₀ (Str.ofString "known")) du x m₀ := by
  funext y
  by_cases h : y = Str.ofString "known"
  · subst h
    simp only [mm, if_true]
    rw [if_neg (by decide), if_neg (by decide)]
  · simp [mm, h]
theorem not_mods {L d x : Nat} (h1 : L + 1 < d) (h2 : d < x) : ((x : Addr) == sysModules) = false := by
  have : x ≠ 1 := by omega
  exact beq_eq_false_iff_ne.mpr this
theorem loop_start {w : World} {p : Program} {loose : List Str} {mean : ExcName → Option Value} {mg mb : Str → Option Value} {x dx du ax : Addr} {us : List (Nat × Str)} {oc : Obj} {v₀ : Option Value} {vs : List Value} {sc : List Int} {na : Nat}
    {h₀ : Heap} {L fa : Addr} {cdv : Value} {m₀ : Str → Option Value} {news : List (Addr × Obj)} {s : Shared} {Q : Flow → Shared → Prop} {E : Value → Shared → Prop} {pt : Pos}
    (B : Below callerA h₀ [] h₀) (F : Fr h₀ L s.heap (fun y => if y = Str.ofString "due" then some (.ref du) else if y = Str.ofString "table" then some (.ref x) else m₀ y)) (X : (hd.heap_39 w.params).In h₀) (N : News h₀ L s.heap news) (T : Top p loose mean mg mb h₀)
    (hma : (ax, W.listOf vs.toArray na) ∈ news) (hH : Held news x dx du us) (hus : us.length ≤ 1) (hmc : (L + 1, oc) ∈ news) (hoc : oc.data = .cell v₀) (hau : ax ≠ du) (hsm : (x == sysModules) = false) (hI : IntsAre vs (List.map (fun k' : Int => k'.fmod 256) (List.drop 1 sc) ++ [65, 32, 255])) (hl : ¬ ((63 : Nat) : Int) < ((sc.length : Nat) : Int))
    (hret : ∀ m' h' tk, Fr h₀ L h' m' → Q .next { s with heap := h', toks := tk }) :
      wpAny (model Challenge.rw_dn0015_04.row.prog w) (callerA.deeper (lawEnv L fa cdv)) (pyIter (.ref ax)) (fun it s₂ => codeAny (model Challenge.rw_dn0015_04.row.prog w) (callerA.deeper (lawEnv L fa cdv)) (.forLoop (.Name (Str.ofString "octet") pt) it (bodyOf forStmt) [] (lawEnv L fa cdv))
        (fun r s' => match r with | .ok f => Q f s' | .error e => cameBackBy (model Challenge.rw_dn0015_04.row.prog w) (callerA.deeper (lawEnv L fa cdv)) (lawEnv L fa cdv) E e s') s₂) E s := by
  rw [start_mm] at F
  exact loop_any hsm B F X N T hH hus hmc hoc hma hau hI ks_in (ks_len hl) fun kn' h' tk F' => hret _ h' tk F'
theorem held_0 {news : List (Addr × Obj)} {x dx du : Addr} (h1 : (x, mapObj #[] 0 dx) ∈ news) (h2 : (du, W.listOf #[] 0) ∈ news) (h3 : (dx, emptyDict) ∈ news) : Held news x dx du [] := ⟨⟨_, _, _, _, h1, h2, esOf_nil, dueIn_nil⟩, h3⟩
theorem held_1 {news : List (Addr × Obj)} {x dx du Tu : Addr} {t u t' u' : Tok} {n k j : Nat} (h1 : (x, mapObj #[⟨hashInt 32, .int 32 t, .str (Str.ofString "_") u⟩] n dx) ∈ news) (h2 : (du, W.listOf #[.ref Tu] k) ∈ news) (h3 : (dx, emptyDict) ∈ news) (h4 : (Tu, ({ cls := .type "tuple", data := .seq #[.int 32 t', .str (Str.ofString "_") u'] j } : Obj)) ∈ news) : Held news x dx du [(32, Str.ofString "_")] :=
  ⟨⟨_, _, _, _, h1, h2, EsOf.push (k := 32) esOf_nil, DueIn.push (k := 32) dueIn_nil h4 rfl rfl⟩, h3⟩
theorem no_empty {sc : List Int} {P : Prop} {inst : Decidable (sc = [])} (h : @decide (sc = []) inst = false) (h2 : (0 : Int) < -((sc.length : Nat) : Int) ∨ ((sc.length : Nat) : Int) ≤ 0) : P := by
  have h3 : sc ≠ [] := of_decide_eq_false h
  cases sc with
  | nil => exact absurd rfl h3
  | cons a r => simp only [List.length_cons] at h2; omega
section
-- (one line more than the section ahead in the joined file: see A4)
local macro_rules | `(tactic| walk_at "no step bears this name") => `(tactic| skip)
local macro_rules | `(tactic| walk_at "call ref") => `(tactic| (k_here; (with_reducible show wpAny _ _ (call (Value.ref 31) _ []) _ _ _); (try dsimp only [List.nil_append]); k_dflt (refine' call_map ?y1 ?y2 ?y3 ?_; (case y1 => k_asm); (case y2 => k_asm); (case y3 => k_asm)); intro x' d' h' F' N' l1 l2; (try k_lt l1); (try k_lt2 l2); (try k_sweep)))
local macro_rules | `(tactic| walk_at "setItem ref int") => `(tactic| (k_here; k_dflt (refine' set_U ?y1 ?y2 ?y3 ?y4 ?_; (case y1 => k_asm); (case y2 => k_asm); (case y3 => k_asm); (case y4 => k_upd)); intro h' F' N'; (try k_sweep)))
local macro_rules | `(tactic| walk_at "exec For") => `(tactic| (k_here; k_dflt (refine for_own (by k_asm) ?_)))
local macro_rules | `(tactic| walk_at "pyIter ref") => `(tactic| (k_here; k_dflt (refine' loop_start ?y1 ?y2 ?y3 ?y4 ?y5 ?y6 ?y7 ?y8 ?y9 ?ya ?yb ?yc ?yd ?ye ?_; (case y1 => k_asm); (case y2 => k_asm); (case y3 => k_asm); (case y4 => k_asm); (case y5 => k_asm); (case y6 => k_mem); (case y7 => first | exact held_1 (by k_mem) (by k_mem) (by k_mem) (by k_mem) | exact held_0 (by k_mem) (by k_mem) (by k_mem)); (case y8 => first | exact Nat.le_refl 1 | exact Nat.zero_le 1); (case y9 => k_mem); (case ya => k_asm); (case yb => k_ne); (case yc => exact not_mods (by assumption) (by assumption)); (case yd => assumption); (case ye => assumption)); intro m8 h8 tk8 F8; (try k_sweep)))
set_option maxRecDepth 100000 in
set_option maxHeartbeats 16000000 in
theorem law_holds : PySem.Challenge.rw_dn0015_04.Holds := hd (by
  k_go0
  all_goals try k_fold
  k_steps
  all_goals exact no_empty (by assumption) (by assumption))
end
end Mine

end PartM4
set_option maxRecDepth 100000 in
theorem PySem.Challenge.cw_dn0015_04_holds : PySem.Challenge.rw_dn0015_04.Holds := by
  exact Mine.law_holds
