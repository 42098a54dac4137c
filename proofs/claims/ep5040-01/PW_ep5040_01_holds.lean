import PyProof.Rows.All
import Wide.All
import OpenK.AllK
import Wide.FinOn
import PyProof.IsiH_list
import PyProof.IsiHeapPairs
import PySem.Challenge.RW_ep5040_01
section
open PySem PySem.W PyProof.Rows
set_option Elab.async false
set_option maxRecDepth 100000
set_option maxHeartbeats 8000000
namespace Mine
open_top hd for PySem.Challenge.rw_ep5040_01
end Mine
end

section
open PySem PySem.W PyProof.Rows
set_option Elab.async false
set_option maxRecDepth 100000
set_option maxHeartbeats 4000000
namespace Mine

/-- what is known of every heap that holds the text's own top -/
structure Cx (w : World) (s₀ : Shared) (mg mb : Str → Option Value) (h : Heap) : Prop where
  K : (hd.heap_39 w.params).In h
  T : Top hd.view_39 (looseW hd.view_39 [Str.ofString "OrderedSet"]) (ExcName.means s₀.heap) mg mb h

theorem Cx.keeps {w : World} {s₀ : Shared} {mg mb : Str → Option Value} {h h' : Heap} (C : Cx w s₀ mg mb h) (k : ∀ b o, h.get? b = some o → h'.get? b = some o) : Cx w s₀ mg mb h' :=
  ⟨C.K.keeps k, C.T.keeps k⟩

/-- every object stays but those at W -/
def Eff (W : List Addr) (h h' : Heap) : Prop := ∀ b o, h.get? b = some o → b ∉ W → h'.get? b = some o

theorem enter {w : World} {s₀ : Shared} {mg mb : Str → Option Value} {hb : Heap} {A : Around} {s : Shared} {R : Result → Shared → Prop} (W : List (Addr × Obj))
    {name qual : Str} {params : Arguments} {body : List Stmt} {scope : Scope} {dV kV doc pm cdv ct oc : Value} {an od : Option Addr} {osl : Array (Option Value)} {f : Addr} {args : Args} {binds : List (Str × Value)}
    (C : Cx w s₀ mg mb hb) (hk : hb.StaysIn s.heap) (hW : ∀ p ∈ W, s.heap.get? p.1 = some p.2) (hf : ∀ p ∈ W, hb.get? p.1 = none) (hroom : A.depth < recursionLimit)
    (ho : (hd.heap_39 w.params).lookup f = some ⟨oc, od, .func (fnOf name qual params body scope dV kV doc pm an cdv ct), osl⟩) (hcd : codeIn (hd.heap_39 w.params) cdv qual = true)
    (hbind : BindsTo s (fnOf name qual params body scope dV kV doc pm an cdv ct) args binds) (hloc : ∀ y ∈ binds, scope.names.lookup y.1 = some .local)
    (h : ∀ g L' h₁, (∀ b o, s.heap.get? b = some o → b ∉ W.map (·.1) → g.get? b = some o) → Cx w s₀ mg mb g → g.objs.size = s.heap.objs.size → L' = s.heap.objs.size → Fr g L' h₁ (fun y => binds.reverse.lookup y) → News g L' h₁ W →
      wpAny (model PySem.Challenge.rw_ep5040_01.row.prog w) (A.deeper (envOf qual scope L' f cdv)) (execs body (envOf qual scope L' f cdv))
        (fun fl s' => R (.ok (.ret (match fl with | .ret v => v | _ => .none))) s')
        (fun _ _ => False) { s with heap := h₁, toks := s.toks + binds.length })
    (hco : scope.isCoroutine = false := by rfl) (hgen : scope.isGenerator = false := by rfl) (hkd : scope.kind = .function := by rfl)
    (hcell : ∀ x ∈ scope.names, x.2 ≠ .cell := by decide) : codeAny (model PySem.Challenge.rw_ep5040_01.row.prog w) A (.call (.ref f) args) R s := by
  have X := C.K.keeps fun b o e => hk b o e
  have nm : ∀ b o, hb.get? b = some o → b ∉ W.map (·.1) := fun b o e q => by
    obtain ⟨p, hp, rfl⟩ := List.mem_map.mp q
    rw [hf p hp] at e; cases e
  refine codeAny_call_def (fd := fnOf name qual params body scope dV kV doc pm an cdv ct) (body := body) (binds := binds) hroom (X _ _ ho) rfl (C.T.nolimit.keeps fun b o e => hk b o e) (codeRec_of X hcd) rfl hbind hcell hloc (fun h₁ hns hk₁ => ?_) hco hgen hkd
  have st : hb.StaysIn (hideAll s.heap (W.map (·.1))) := fun b o e => hideAll_get _ (hk b o e) (nm b o e)
  refine wpAny_mono (h (hideAll s.heap (W.map (·.1))) s.heap.objs.size h₁ (fun b o e n => hideAll_get _ e n) (C.keeps fun b o e => st b o e) (hideAll_size _ _) rfl ⟨hns, fun b o e => hk₁ b o (of_hideAll _ e), Nat.le_of_eq (hideAll_size _ _)⟩ ?_) (fun _ _ z => z) fun _ _ z => z.elim
  exact fun p hp => ⟨hk₁ _ _ (hW p hp), Nat.ne_of_lt (Heap.lt_size (hW p hp)), hideAll_none _ (List.mem_map_of_mem hp)⟩

abbrev osObj (dx : Addr) (es : Array (Int × Value)) (ep : Nat) (t : SetTable) (sl : Array (Option Value)) : Obj := ⟨.ref 232, some dx, .set es ep t, sl⟩

theorem inst_S {h₀ h : Heap} {L x dx : Addr} {news : List (Addr × Obj)} {od : Obj} {es : Array (Int × Value)} {ep : Nat} {t : SetTable} {sl : Array (Option Value)}
    (N : News h₀ L h news) (h1 : (x, osObj dx es ep t sl) ∈ news) (h2 : (dx, od) ∈ news) : InstAt h x (osObj dx es ep t sl) 232 (some od) := ⟨(N _ h1).1, rfl, rfl, (N _ h2).1⟩
end Mine
end

section
open PySem PySem.W PyProof.Rows
set_option Elab.async false
set_option maxRecDepth 100000
set_option maxHeartbeats 4000000
namespace Mine

def keyOf : Value → Int
  | .int i _ => i
  | _ => 0

def addL (xs : List Int) (k : Int) : List Int := if k ∈ xs then xs else xs ++ [k]

abbrev IK (prog : Program) (w : World) := intKind prog w

structure SOK (prog : Program) (w : World) (es : Array (Int × Value)) (t : SetTable) (xs : List Int) : Prop where
  el : ElemsOf (IK prog w) es.toList
  pm : List.Perm (es.toList.map fun e => keyOf e.2) xs
  nd : xs.Nodup
  ft : t.fits es.size = true

def SetO (prog : Program) (w : World) (o : Obj) (xs : List Int) : Prop := ∃ es ep t, o.data = .set es ep t ∧ SOK prog w es t xs

/-- what a set's change may turn of its object -/
structure SameHead (o o' : Obj) : Prop where
  cls : o'.cls = o.cls
  dict : o'.dict = o.dict
  slots : o'.slots = o.slots
theorem SameHead.refl (o : Obj) : SameHead o o := ⟨rfl, rfl, rfl⟩
theorem SameHead.trans {a b c : Obj} (x : SameHead a b) (y : SameHead b c) : SameHead a c := ⟨y.cls.trans x.cls, y.dict.trans x.dict, y.slots.trans x.slots⟩

section
variable {prog : Program} {w : World} {A : Around} {E : Value → Shared → Prop} {s : Shared} {a : Addr} {o : Obj} {xs : List Int} {k : Int} {tk : Tok}

theorem isInt_key {v : Value} {k : Int} (h : Value.isInt k v = true) : keyOf v = k := by
  cases v <;> simp_all [Value.isInt, keyOf]

theorem el_key {l : List (Int × Value)} (h : ElemsOf (IK prog w) l) {e : Int × Value} (he : e ∈ l) : ∃ t, e.2 = .int (keyOf e.2) t ∧ e.1 = hashInt (keyOf e.2) := by
  obtain ⟨⟨k, h1, h2⟩, _⟩ := h e he
  have h3 := isInt_key h1
  obtain ⟨t, ht⟩ := Value.isInt_shape h1
  rw [h3]
  exact ⟨t, ht, h2⟩

theorem el_is {l : List (Int × Value)} (h : ElemsOf (IK prog w) l) {e : Int × Value} (he : e ∈ l) (k : Int) : Value.isInt k e.2 = decide (keyOf e.2 = k) := by
  obtain ⟨t, ht, _⟩ := el_key h he
  rw [ht]
  show (keyOf e.2 == k) = decide (keyOf e.2 = k)
  by_cases hk : keyOf e.2 = k
  · rw [hk]; simp
  · simp [hk]

theorem SOK.mem {es : Array (Int × Value)} {t : SetTable} (S : SOK prog w es t xs) (k : Int) : k ∈ xs ↔ ∃ e ∈ es.toList, Value.isInt k e.2 = true := by
  rw [← S.pm.mem_iff, List.mem_map]
  constructor
  · rintro ⟨e, he, rfl⟩; exact ⟨e, he, by rw [el_is S.el he]; exact decide_eq_true rfl⟩
  · rintro ⟨e, he, h⟩; exact ⟨e, he, isInt_key h⟩

theorem SOK.sz {es : Array (Int × Value)} {t : SetTable} (S : SOK prog w es t xs) : es.size = xs.length := by
  have := S.pm.length_eq
  simpa using this

theorem SOK.perm {es : Array (Int × Value)} {t : SetTable} {ys : List Int} (S : SOK prog w es t xs) (p : xs.Perm ys) : SOK prog w es t ys := ⟨S.el, S.pm.trans p, p.nodup_iff.mp S.nd, S.ft⟩

theorem SetO.perm {ys : List Int} (S : SetO prog w o xs) (p : xs.Perm ys) : SetO prog w o ys := let ⟨es, ep, t, h, S⟩ := S; ⟨es, ep, t, h, S.perm p⟩

theorem SetO.nd (S : SetO prog w o xs) : xs.Nodup := let ⟨_, _, _, _, S⟩ := S; S.nd

theorem SOK.findIdx {es : Array (Int × Value)} {t : SetTable} (S : SOK prog w es t xs) (k : Int) :
    (es.toList.findIdx? (fun e => (IK prog w).is k e.2)).isSome = decide (k ∈ xs) := by
  have h := S.mem k
  cases hr : es.toList.findIdx? (fun e => (IK prog w).is k e.2) with
  | none =>
    rw [Option.isSome_none]
    symm
    refine decide_eq_false fun hk => ?_
    obtain ⟨e, he, hp⟩ := h.mp hk
    have := List.findIdx?_eq_none_iff.mp hr e he
    have hp' : (IK prog w).is k e.2 = true := hp
    rw [hp'] at this; cases this
  | some j =>
    rw [Option.isSome_some]
    symm
    obtain ⟨hj, hpj, _⟩ := List.findIdx?_eq_some_iff_getElem.mp hr
    exact decide_eq_true (h.mpr ⟨es.toList[j], List.getElem_mem hj, hpj⟩)

theorem wpAny_setState_S {Q : (Array (Int × Value) × Nat × SetTable) → Shared → Prop} (ho : s.heap.get? a = some o) (S : SetO prog w o xs)
    (h : ∀ es ep t, o.data = .set es ep t → SOK prog w es t xs → Q (es, ep, t) s) : wpAny (model prog w) A (setState a) Q E s := by
  obtain ⟨es, ep, t, hd, S⟩ := S
  exact wpAny_setState_of ho hd S.ft (h es ep t hd S)

theorem wpAny_setEntries_S {Q : Array (Int × Value) → Shared → Prop} (ho : s.heap.get? a = some o) (S : SetO prog w o xs)
    (h : ∀ es ep t, o.data = .set es ep t → SOK prog w es t xs → Q es s) : wpAny (model prog w) A (setEntries a) Q E s := by
  obtain ⟨es, ep, t, hd, S⟩ := S
  exact wpAny_setEntries_of ho hd S.ft (h es ep t hd S)

theorem wpAny_setEpoch_S {Q : Nat → Shared → Prop} (ho : s.heap.get? a = some o) (S : SetO prog w o xs)
    (h : ∀ es ep t, o.data = .set es ep t → SOK prog w es t xs → Q ep s) : wpAny (model prog w) A (setEpoch a) Q E s := by
  obtain ⟨es, ep, t, hd, S⟩ := S
  exact wpAny_setEpoch_of ho hd S.ft (h es ep t hd S)

theorem wpAny_setFind_S {Q : Option Nat → Shared → Prop} (ho : s.heap.get? a = some o) (S : SetO prog w o xs) (hb : xs.length < scanBound)
    (h : ∀ r : Option Nat, (∀ es ep t, o.data = .set es ep t → r = es.toList.findIdx? (fun e => (IK prog w).is k e.2)) → r.isSome = decide (k ∈ xs) → Q r s) :
    wpAny (model prog w) A (setFind a (.int k tk) (hashInt k)) Q E s := by
  obtain ⟨es, ep, t, hd, S⟩ := S
  have hkey : (IK prog w).is k (.int k tk) = true := intKind_is _ _ _ _
  unfold setFind setFindIn
  refine wpAny_bind (wpAny_setState_of ho hd S.ft ?_)
  dsimp only
  rw [byScan_of (knd := IK prog w) rfl (by rw [S.sz]; exact hb) S.el]
  simp only [↓reduceIte]
  refine wpAny_bind (wpAny_rule ?_)
  refine wpAny_bind (wpAny_setScan_of (knd := IK prog w) hkey ho hd S.ft S.el ?_)
  have hf := S.findIdx k
  have same : ∀ es' ep' t', o.data = .set es' ep' t' → es' = es := fun es' ep' t' e => by rw [hd] at e; cases e; rfl
  cases hr : List.findIdx? (fun e => (IK prog w).is k e.2) es.toList with
  | none =>
    dsimp only
    exact wpAny_pure (h none (fun es' ep' t' e => by rw [same _ _ _ e, hr]) (by rw [← hf, hr]))
  | some j =>
    dsimp only
    exact wpAny_pure (h (some (0 + j)) (fun es' ep' t' e => by rw [same _ _ _ e, hr, Nat.zero_add]) (by rw [← hf, hr]; rfl))

theorem store_get {h : Heap} {es : Array (Int × Value)} {ep : Nat} {t : SetTable} (ho : h.get? a = some o) (hd : o.data = .set es ep t) (es' : Array (Int × Value)) (t' : SetTable) :
    (h.update a (Obj.putSet es' t')).get? a = some { o with data := .set es' (ep + 1) t' } := by
  have := Heap.get?_update_self (Obj.putSet es' t') ho (by rw [putSet_of es' t' hd]; rfl)
  rwa [putSet_of es' t' hd] at this

theorem wpAny_storeSet_S {es es' : Array (Int × Value)} {ep : Nat} {t t' : SetTable} {Q : Unit → Shared → Prop} (ho : s.heap.get? a = some o) (hd : o.data = .set es ep t) (hz : es'.size ≤ sizeLine)
    (h : ∀ h', Heap.SameBut a s.heap h' → h'.get? a = some { o with data := .set es' (ep + 1) t' } → Q () { s with heap := h' }) :
    wpAny (model prog w) A (storeSet a es' t') Q E s :=
  wpAny_storeSet_of ho hd (h _ (Heap.SameBut.update s.heap a _) (store_get ho hd es' t')) hz

theorem addL_of_mem {xs : List Int} {k : Int} (h : k ∈ xs) : addL xs k = xs := if_pos h
theorem addL_of_not {xs : List Int} {k : Int} (h : k ∉ xs) : addL xs k = xs ++ [k] := if_neg h
theorem mem_addL {xs : List Int} {k j : Int} : j ∈ addL xs k ↔ j ∈ xs ∨ j = k := by
  unfold addL
  split
  · rename_i h; constructor
    · exact .inl
    · rintro (h' | rfl); exact h'; exact h
  · simp
theorem addL_nodup {xs : List Int} {k : Int} (h : xs.Nodup) : (addL xs k).Nodup := by
  unfold addL
  split
  · exact h
  · rename_i hk
    exact List.nodup_append.mpr ⟨h, by simp, fun a ha b hb e => by simp at hb; exact hk (hb ▸ e ▸ ha)⟩
theorem addL_length {xs : List Int} {k : Int} : (addL xs k).length ≤ xs.length + 1 := by
  unfold addL; split <;> simp

def gwh : Bool → Sem Unit
  | true => rule "set.scan.the-table-gave-way"
  | false => pure ()

theorem wpAny_setAddHashed_S {Q : Bool → Shared → Prop} (ho : s.heap.get? a = some o) (S : SetO prog w o xs) (hroom : xs.length + 1 < scanBound)
    (h : ∀ h' o', Heap.SameBut a s.heap h' → h'.get? a = some o' → SameHead o o' → SetO prog w o' (addL xs k) → Q (!decide (k ∈ xs)) { s with heap := h' }) :
    wpAny (model prog w) A (setAddHashed a (.int k tk) (hashInt k)) Q E s := by
  obtain ⟨es, ep, t, hd, S⟩ := S
  have hkey : (IK prog w).is k (.int k tk) = true := intKind_is _ _ _ _
  unfold setAddHashed setAddHashedIn
  refine wpAny_holding (wpAny_bind (wpAny_setState_of ho hd S.ft ?_))
  dsimp only
  rw [byScan_of (knd := IK prog w) rfl (by rw [S.sz]; omega) S.el]
  simp only [↓reduceIte]
  unfold setAddByScan
  refine wpAny_bind ?_
  refine wpAny_bind (wpAny_rule ?_)
  refine wpAny_bind (wpAny_setScan_of (knd := IK prog w) hkey ho hd S.ft S.el ?_)
  have hf := S.findIdx k
  cases hr : List.findIdx? (fun e => (IK prog w).is k e.2) es.toList with
  | some j =>
    dsimp only
    rw [hr] at hf
    have hk : k ∈ xs := of_decide_eq_true hf.symm
    refine wpAny_pure (wpAny_pure ?_)
    have := h s.heap o (Heap.SameBut.refl a s.heap) ho (.refl o) ⟨es, ep, t, hd, by rw [addL_of_mem hk]; exact S⟩
    simp only [hk, decide_true, Bool.not_true] at this
    exact this
  | none =>
    dsimp only
    rw [hr] at hf
    have hk : k ∉ xs := of_decide_eq_false hf.symm
    have hgw : ∀ (b : Bool) {s₁ : Shared} {Q' : Unit → Shared → Prop}, Q' () s₁ → wpAny (model prog w) A (gwh b) Q' E s₁ :=
      fun b s₁ Q' hq => by cases b <;> first | exact wpAny_pure hq | exact wpAny_rule hq
    have hperm := layNew_perm t es (hashInt k) (.int k tk)
    have hfits := layNew_fits t es (hashInt k) (.int k tk)
    have hq : ∀ h' o', Heap.SameBut a s.heap h' → h'.get? a = some o' → SameHead o o' → SetO prog w o' (addL xs k) → Q true { s with heap := h' } := by
      intro h' o' h1 h2 h3 h4
      have := h h' o' h1 h2 h3 h4
      simp only [hk, decide_false, Bool.not_false] at this
      exact this
    generalize hL : layNew t es (hashInt k) (.int k tk) = L at hperm hfits ⊢
    obtain ⟨es1, t1, wasDummy, gave⟩ := L
    dsimp only at hperm hfits ⊢
    rw [Array.toList_push] at hperm
    have hel1 : ElemsOf (IK prog w) es1.toList := (S.el.push hkey rfl).perm hperm
    have hpm1 : List.Perm (es1.toList.map fun e => keyOf e.2) (addL xs k) := by
      rw [addL_of_not hk]
      refine (hperm.map _).trans ?_
      rw [List.map_append]
      exact S.pm.append_right _
    have hsz1 : es1.size = xs.length + 1 := by
      have := hperm.length_eq
      simp only [Array.length_toList, List.length_append, List.length_singleton] at this
      rw [this, S.sz]
    have hz1 : es1.size ≤ sizeLine := fits_of_scanBound (by omega)
    refine wpAny_bind (hgw _ ?_)
    have fin : ∀ (t2 : SetTable), t2 = t1 → wpAny (model prog w) A (do
        storeSet a es1 t2
        if (!wasDummy && t2.tooFull) = true then do
            gwh (relayAll t2 es1 (SetTable.grown es1.size)).2.2
            storeSet a (relayAll t2 es1 (SetTable.grown es1.size)).1 (relayAll t2 es1 (SetTable.grown es1.size)).2.1
            pure (some true)
          else pure (some true)) (fun r s' => match r with | some added => Q added s' | none => False) E s := by
      rintro t2 rfl
      refine wpAny_bind (wpAny_storeSet_S ho hd hz1 fun h1 hs1 hg1 => ?_)
      split
      · have hp := relayAll_perm t2 es1 (SetTable.grown es1.size)
        have hfr := relayAll_fits t2 es1 (SetTable.grown es1.size)
        generalize hRl : relayAll t2 es1 (SetTable.grown es1.size) = Rl at hp hfr ⊢
        obtain ⟨es2, t3, gave2⟩ := Rl
        dsimp only at hp hfr ⊢
        have hsz : es2.size = es1.size := by rw [← Array.length_toList, hp.length_eq, Array.length_toList]
        refine wpAny_bind (hgw _ ?_)
        refine wpAny_bind (wpAny_storeSet_S hg1 rfl (by rw [hsz]; exact hz1) fun h2 hs2 hg2 => ?_)
        refine wpAny_pure ?_
        exact hq h2 _ (hs1.trans hs2) hg2 ⟨rfl, rfl, rfl⟩ ⟨es2, _, t3, rfl, hel1.perm hp, (hp.map _).trans hpm1, addL_nodup S.nd, hfr⟩
      · refine wpAny_pure ?_
        exact hq h1 _ hs1 hg1 ⟨rfl, rfl, rfl⟩ ⟨es1, _, t2, rfl, hel1, hpm1, addL_nodup S.nd, hfits⟩
    have back : ∀ (r : Option Bool) (s' : Shared), (match r with | some added => Q added s' | none => False) → wpAny (model prog w) A (match r with
        | some added => pure added
        | none => setAddHashedIn a (.int k tk) (hashInt k) 99999) Q E s' := fun r s' z => by
      cases r with
      | none => exact z.elim
      | some b => exact wpAny_pure z
    split
    · refine wpAny_bind ?_
      rw [hashByValue_scannable 8 (show Value.scannable (.int k tk) = true from rfl)]
      refine wpAny_pure ?_
      exact wpAny_mono (fin _ (if_pos rfl)) back fun _ _ z => z
    · refine wpAny_bind (wpAny_pure ?_)
      exact wpAny_mono (fin _ (if_pos rfl)) back fun _ _ z => z

theorem wpAny_setAdd_S {Q : Bool → Shared → Prop} (ho : s.heap.get? a = some o) (S : SetO prog w o xs) (hroom : xs.length + 1 < scanBound)
    (h : ∀ h' o', Heap.SameBut a s.heap h' → h'.get? a = some o' → SameHead o o' → SetO prog w o' (addL xs k) → Q (!decide (k ∈ xs)) { s with heap := h', toks := s.toks + 1 }) :
    wpAny (model prog w) A (setAdd a (.int k tk)) Q E s := by
  unfold setAdd
  refine wpAny_holding (wpAny_bind ((IK prog w).pyHash (k := k) (intKind_is _ _ _ _) ?_))
  exact wpAny_setAddHashed_S (s := { s with toks := s.toks + 1 }) ho S hroom h

theorem wpAny_setContains_S {Q : Bool → Shared → Prop} (ho : s.heap.get? a = some o) (S : SetO prog w o xs) (hb : xs.length < scanBound)
    (h : Q (decide (k ∈ xs)) { s with toks := s.toks + 1 }) :
    wpAny (model prog w) A (setContains a (.int k tk)) Q E s := by
  unfold setContains
  refine wpAny_holding (wpAny_bind ((IK prog w).pyHash (k := k) (intKind_is _ _ _ _) ?_))
  refine wpAny_bind (wpAny_setFind_S (s := { s with toks := s.toks + 1 }) ho S hb fun r _ hr => ?_)
  refine wpAny_pure ?_
  rw [hr]; exact h
end
end Mine
end

section
open PySem PySem.W PyProof.Rows
set_option Elab.async false
set_option maxRecDepth 100000
set_option maxHeartbeats 4000000
namespace Mine

theorem getElem_eraseIdx_perm {α : Type} {l : List α} {i : Nat} (h : i < l.length) : List.Perm (l[i] :: l.eraseIdx i) l := by
  rw [List.eraseIdx_eq_take_drop_succ]
  have e : l = l.take i ++ l[i] :: l.drop (i + 1) := by rw [← List.drop_eq_getElem_cons h, List.take_append_drop]
  have p : List.Perm (l.take i ++ l[i] :: l.drop (i + 1)) (l[i] :: (l.take i ++ l.drop (i + 1))) := List.perm_middle
  rw [← e] at p
  exact p.symm

theorem toList_eraseAt {α : Type} (xs : Array α) (p : Nat) : (SetTable.eraseAt xs p).toList = xs.toList.eraseIdx p := by
  rw [List.eraseIdx_eq_take_drop_succ]
  simp [SetTable.eraseAt, List.extract_eq_take_drop]
  rw [List.take_of_length_le]
  simp

theorem size_eraseAt {α : Type} (xs : Array α) (p : Nat) (h : p < xs.size) : (SetTable.eraseAt xs p).size = xs.size - 1 := by
  rw [← Array.length_toList, toList_eraseAt, List.length_eraseIdx]
  simp [h]
theorem size_insertAt {α : Type} (xs : Array α) (p : Nat) (x : α) : (SetTable.insertAt xs p x).size = xs.size + 1 := by
  rw [← Array.length_toList, (SetTable.insertAt_perm xs p x).length_eq]
  simp

theorem drop_fits {t : SetTable} {n i : Nat} (h : t.fits n = true) (hi : i < n) : (t.drop i).fits (n - 1) = true := by
  simp only [SetTable.fits, Bool.and_eq_true, beq_iff_eq, decide_eq_true_eq] at h ⊢
  obtain ⟨h1, h2⟩ := h
  have hp : t.place[i]? = some t.place[i] := by simp [h1, hi]
  unfold SetTable.drop
  rw [hp]
  dsimp only [SetTable.fill] at h2 ⊢
  rw [size_eraseAt _ _ (by omega), size_insertAt]
  omega

section
variable {prog : Program} {w : World} {A : Around} {E : Value → Shared → Prop} {s : Shared} {a : Addr} {o : Obj} {xs : List Int} {k : Int} {tk : Tok}

theorem SOK.erase {es : Array (Int × Value)} {t : SetTable} (S : SOK prog w es t xs) {i : Nat} (hi : es.toList.findIdx? (fun e => (IK prog w).is k e.2) = some i) :
    SOK prog w (SetTable.eraseAt es i) (t.drop i) (xs.erase k) := by
  obtain ⟨hj, hpj, _⟩ := List.findIdx?_eq_some_iff_getElem.mp hi
  have hkey : keyOf es.toList[i].2 = k := isInt_key hpj
  have hlt : i < es.size := by simpa using hj
  refine ⟨?_, ?_, S.nd.erase k, ?_⟩
  · intro e he
    rw [toList_eraseAt] at he
    exact S.el e (List.mem_of_mem_eraseIdx he)
  · rw [toList_eraseAt]
    have p1 : List.Perm (es.toList[i] :: es.toList.eraseIdx i) es.toList := getElem_eraseIdx_perm hj
    have p2 := (p1.map fun e => keyOf e.2).trans S.pm
    rw [List.map_cons, hkey] at p2
    exact (List.cons_perm_iff_perm_erase.mp p2).2
  · have := drop_fits S.ft hlt
    rw [size_eraseAt _ _ hlt]; exact this

theorem wpAny_setDiscardHashed_S {Q : Bool → Shared → Prop} (ho : s.heap.get? a = some o) (S : SetO prog w o xs) (hb : xs.length < scanBound)
    (h : ∀ h' o', Heap.SameBut a s.heap h' → h'.get? a = some o' → SameHead o o' → SetO prog w o' (xs.erase k) → Q (decide (k ∈ xs)) { s with heap := h' }) :
    wpAny (model prog w) A (setDiscardHashed a (.int k tk) (hashInt k)) Q E s := by
  unfold setDiscardHashed
  refine wpAny_bind (wpAny_setFind_S ho S hb fun r hr hm => ?_)
  cases r with
  | none =>
    have hk : k ∉ xs := of_decide_eq_false hm.symm
    have := h s.heap o (Heap.SameBut.refl a s.heap) ho (.refl o) (by rw [List.erase_of_not_mem hk]; exact S)
    rw [← hm] at this
    exact wpAny_pure this
  | some i =>
    dsimp only
    refine wpAny_bind (wpAny_setState_S ho S fun es ep t hd S' => ?_)
    dsimp only
    have hi := (hr es ep t hd).symm
    have S2 := S'.erase hi
    have hz : (SetTable.eraseAt es i).size ≤ sizeLine := by
      rw [S2.sz]
      have : (xs.erase k).length ≤ xs.length := List.length_erase_le
      exact fits_of_scanBound (by omega)
    refine wpAny_bind (wpAny_storeSet_S ho hd hz fun h' hs hg => ?_)
    refine wpAny_bind (wpAny_point (wpAny_pure ?_))
    have := h h' _ hs hg ⟨rfl, rfl, rfl⟩ ⟨_, _, _, rfl, S2⟩
    rw [← hm] at this
    exact this

theorem wpAny_setDiscard_S {Q : Bool → Shared → Prop} (ho : s.heap.get? a = some o) (S : SetO prog w o xs) (hb : xs.length < scanBound)
    (h : ∀ h' o', Heap.SameBut a s.heap h' → h'.get? a = some o' → SameHead o o' → SetO prog w o' (xs.erase k) → Q (decide (k ∈ xs)) { s with heap := h', toks := s.toks + 1 }) :
    wpAny (model prog w) A (setDiscard a (.int k tk)) Q E s := by
  unfold setDiscard
  refine wpAny_holding (wpAny_bind ((IK prog w).pyHash (k := k) (intKind_is _ _ _ _) ?_))
  exact wpAny_setDiscardHashed_S (s := { s with toks := s.toks + 1 }) ho S hb h
end

namespace F
theorem entry_iloop : entryFor table "frozenset.intersection.loop" = some Builtin.«frozenset.intersection.loop» := entryFor_of_tree (by kernel_rfl)
theorem plain_iloop : plainId "frozenset.intersection.loop" = true := by decide +kernel
theorem entry_dloop : entryFor table "set.difference_update.loop" = some Builtin.«set.difference_update.loop» := entryFor_of_tree (by kernel_rfl)
theorem plain_dloop : plainId "set.difference_update.loop" = true := by decide +kernel
end F

/-- the ints that an iteration hands on -/
def HandsInts (P : Nat → Value → Prop) (ys : List Int) : Prop := ∀ i v, P i v → ∃ y t, ys[i]? = some y ∧ v = .int y t

section
variable {prog : Program} {w : World} {A : Around} {R : Result → Shared → Prop} {I S : Addr} {fp wr : List Addr} {n : Nat} {P : Nat → Value → Prop} {St : Nat → Heap → Prop} {ys : List Int}

theorem codeAny_update_loop_S (W : Walks prog w A.in1 I fp wr n P St) (hSf : S ∉ fp) (hn : ys.length = n) (hP : HandsInts P ys) :
    ∀ (k i : Nat) (s : Shared) (o : Obj) (xs : List Int), n - i = k → i ≤ n → St i s.heap → s.heap.get? S = some o → SetO prog w o xs → xs.length + (n - i) < scanBound →
      (∀ h' tk o', (∀ b ob, b ∉ S :: wr → s.heap.get? b = some ob → h'.get? b = some ob) → h'.get? S = some o' → SameHead o o' → SetO prog w o' ((ys.drop i).foldl addL xs) → R (.ok (.ret .none)) { s with heap := h', toks := tk }) →
      codeAny (model prog w) A (.builtin "set.update.loop" ⟨[.ref S, .ref I], []⟩) R s := by
  have hSw : S ∉ wr := fun h => hSf (W.sub _ h)
  intro k
  induction k with
  | zero =>
    intro i s o xs hk hi hst ho hS hb hR
    have hin : i = n := by omega
    subst hin
    refine codeAny_builtin F.entry_set_update_loop ?_
    rw [Around.under_plainId F.plain_set_update_loop _]
    show wpAny _ A.in1 (pyNext (.ref I) >>= _) _ _ s
    refine wpAny_bind (W.done s _ _ hst fun h' tk hm => ?_)
    show wpAny _ A.in1 (ret Value.none) _ _ _
    refine wpAny_pure (hR h' tk o (fun b ob hb' e => hm b ob (fun h => hb' (.tail _ h)) e) (hm _ _ hSw ho) (.refl o) ?_)
    rw [List.drop_of_length_le (by omega)]; exact hS
  | succ k ih =>
    intro i s o xs hk hi hst ho hS hb hR
    have hlt : i < n := by omega
    refine codeAny_builtin F.entry_set_update_loop ?_
    rw [Around.under_plainId F.plain_set_update_loop _]
    show wpAny _ A.in1 (pyNext (.ref I) >>= _) _ _ s
    refine wpAny_bind (W.item i s _ _ hlt hst fun v h₁ tk₁ hPv hst₁ hk₁ => ?_)
    obtain ⟨y, t, hy, rfl⟩ := hP i v hPv
    show wpAny _ A.in1 (holding [Value.int y t] (setAdd S (.int y t)) >>= _) _ _ _
    refine wpAny_bind (wpAny_holding ?_)
    refine wpAny_setAdd_S (s := { s with heap := h₁, toks := tk₁ }) (hk₁ _ _ hSw ho) hS (by omega) fun h₂ o₂ hsb hg hh hS₂ => ?_
    have hdrop : (ys.drop i).foldl addL xs = (ys.drop (i + 1)).foldl addL (addL xs y) := by
      obtain ⟨hlt', hy'⟩ := List.getElem?_eq_some_iff.mp hy
      rw [List.drop_eq_getElem_cons hlt', List.foldl_cons, hy']
    refine wpAny_pure ⟨plainId_quiet F.plain_set_update_loop _, ih (i + 1) { s with heap := h₂, toks := tk₁ + 1 } o₂ (addL xs y) (by omega) hlt (W.frame _ _ _ hst₁ fun b hb o e => ?_) hg hS₂ ?_ fun h' tk o' hkp hg' hh' hS' => ?_⟩
    · rw [hsb.2 b (fun h : b = S => hSf (by rw [← h]; exact hb))]; exact e
    · have := addL_length (xs := xs) (k := y); omega
    · refine hR h' tk o' (fun b ob hb' e => hkp b ob hb' ?_) hg' (hh.trans hh') (by rw [hdrop]; exact hS')
      show h₂.get? b = some ob
      rw [hsb.2 b (fun h : b = S => hb' (by rw [h]; exact .head _))]
      exact hk₁ b ob (fun h => hb' (.tail _ h)) e

theorem codeAny_difference_loop_S (W : Walks prog w A.in1 I fp wr n P St) (hSf : S ∉ fp) (hn : ys.length = n) (hP : HandsInts P ys) :
    ∀ (k i : Nat) (s : Shared) (o : Obj) (xs : List Int), n - i = k → i ≤ n → St i s.heap → s.heap.get? S = some o → SetO prog w o xs → xs.length < scanBound →
      (∀ h' tk o', (∀ b ob, b ∉ S :: wr → s.heap.get? b = some ob → h'.get? b = some ob) → h'.get? S = some o' → SameHead o o' → SetO prog w o' ((ys.drop i).foldl List.erase xs) → R (.ok (.ret .none)) { s with heap := h', toks := tk }) →
      codeAny (model prog w) A (.builtin "set.difference_update.loop" ⟨[.ref S, .ref I], []⟩) R s := by
  have hSw : S ∉ wr := fun h => hSf (W.sub _ h)
  intro k
  induction k with
  | zero =>
    intro i s o xs hk hi hst ho hS hb hR
    have hin : i = n := by omega
    subst hin
    refine codeAny_builtin F.entry_dloop ?_
    rw [Around.under_plainId F.plain_dloop _]
    show wpAny _ A.in1 (pyNext (.ref I) >>= _) _ _ s
    refine wpAny_bind (W.done s _ _ hst fun h' tk hm => ?_)
    show wpAny _ A.in1 (ret Value.none) _ _ _
    refine wpAny_pure (hR h' tk o (fun b ob hb' e => hm b ob (fun h => hb' (.tail _ h)) e) (hm _ _ hSw ho) (.refl o) ?_)
    rw [List.drop_of_length_le (by omega)]; exact hS
  | succ k ih =>
    intro i s o xs hk hi hst ho hS hb hR
    have hlt : i < n := by omega
    refine codeAny_builtin F.entry_dloop ?_
    rw [Around.under_plainId F.plain_dloop _]
    show wpAny _ A.in1 (pyNext (.ref I) >>= _) _ _ s
    refine wpAny_bind (W.item i s _ _ hlt hst fun v h₁ tk₁ hPv hst₁ hk₁ => ?_)
    obtain ⟨y, t, hy, rfl⟩ := hP i v hPv
    show wpAny _ A.in1 (holding [Value.int y t] (setDiscard S (.int y t)) >>= _) _ _ _
    refine wpAny_bind (wpAny_holding ?_)
    refine wpAny_setDiscard_S (s := { s with heap := h₁, toks := tk₁ }) (hk₁ _ _ hSw ho) hS hb fun h₂ o₂ hsb hg hh hS₂ => ?_
    have hdrop : (ys.drop i).foldl List.erase xs = (ys.drop (i + 1)).foldl List.erase (xs.erase y) := by
      obtain ⟨hlt', hy'⟩ := List.getElem?_eq_some_iff.mp hy
      rw [List.drop_eq_getElem_cons hlt', List.foldl_cons, hy']
    refine wpAny_pure ⟨plainId_quiet F.plain_dloop _, ih (i + 1) { s with heap := h₂, toks := tk₁ + 1 } o₂ (xs.erase y) (by omega) hlt (W.frame _ _ _ hst₁ fun b hb o e => ?_) hg hS₂ ?_ fun h' tk o' hkp hg' hh' hS' => ?_⟩
    · rw [hsb.2 b (fun h : b = S => hSf (by rw [← h]; exact hb))]; exact e
    · have : (xs.erase y).length ≤ xs.length := List.length_erase_le
      omega
    · refine hR h' tk o' (fun b ob hb' e => hkp b ob hb' ?_) hg' (hh.trans hh') (by rw [hdrop]; exact hS')
      show h₂.get? b = some ob
      rw [hsb.2 b (fun h : b = S => hb' (by rw [h]; exact .head _))]
      exact hk₁ b ob (fun h => hb' (.tail _ h)) e
end
end Mine
end

section
open PySem PySem.W PyProof.Rows
set_option Elab.async false
set_option maxRecDepth 100000
set_option maxHeartbeats 4000000
namespace Mine

/-! the table that is laid anew -/

def somes (ow : Array (Option Nat)) : List Nat := ow.toList.filterMap id

theorem perm_set_none : ∀ (l : List (Option Nat)) (j k : Nat), l[j]? = some none → List.Perm ((l.set j (some k)).filterMap id) (k :: l.filterMap id)
  | [], j, k, h => by simp at h
  | x :: r, 0, k, h => by
    simp only [List.getElem?_cons_zero, Option.some.injEq] at h
    subst h
    simp
  | x :: r, j + 1, k, h => by
    simp only [List.getElem?_cons_succ] at h
    have ih := perm_set_none r j k h
    cases x with
    | none => simpa using ih
    | some y =>
      simp only [List.set_cons_succ, List.filterMap_cons, id]
      exact (List.Perm.cons y ih).trans (List.Perm.swap k y _)

theorem none_of_getD {ow : Array (Option Nat)} {j : Nat} (h : (ow.getD j (some 0)).isNone = true) : ow.toList[j]? = some none ∧ j < ow.size := by
  unfold Array.getD at h
  split at h
  · rename_i hj
    refine ⟨?_, hj⟩
    simp only [Option.isNone_iff_eq_none] at h
    have h' : ow[j] = none := h
    simp [hj, h']
  · cases h

theorem free_spec {mask : Nat} {ow : Array (Option Nat)} : ∀ (fuel i p j : Nat), SetTable.layClean.free mask ow fuel i p = some j → (ow.getD j (some 0)).isNone = true
  | 0, i, p, j, h => by simp [SetTable.layClean.free] at h
  | fuel + 1, i, p, j, h => by
    unfold SetTable.layClean.free at h
    split at h
    · rename_i k hk
      cases h
      exact List.find?_some (p := fun k => (ow.getD (i + k) (some 0)).isNone) hk
    · exact free_spec fuel _ _ _ h

def layStep (mask : Nat) (acc : Option (Array (Option Nat) × Nat)) (h : Int) : Option (Array (Option Nat) × Nat) := do
  let (owner, k) ← acc
  let j ← SetTable.layClean.free mask owner (SetTable.turns mask) (SetTable.bits h % (mask + 1)) (SetTable.bits h)
  pure (owner.setIfInBounds j (some k), k + 1)

theorem layClean_eq (mask : Nat) (hs : Array Int) : SetTable.layClean mask hs = (hs.toList.foldl (layStep mask) (some (Array.replicate (mask + 1) none, 0))).map (·.1) := by
  unfold SetTable.layClean
  rw [← Array.foldl_toList]
  rfl

/-- the steps come through, each slot is found free -/
theorem lay_run {mask : Nat} (ok : List Int → Int → Prop)
    (found : ∀ (done : List Int) (h : Int) (ow : Array (Option Nat)), ok done h → ow.size = mask + 1 → (somes ow).length = done.length →
      (∀ j, (ow.getD j (some 0)).isNone = false → j < ow.size → ∃ d ∈ done, mask ≠ 7 → SetTable.bits d % (mask + 1) = j) →
      ∃ j, SetTable.layClean.free mask ow (SetTable.turns mask) (SetTable.bits h % (mask + 1)) (SetTable.bits h) = some j ∧ (mask ≠ 7 → j = SetTable.bits h % (mask + 1))) :
    ∀ (todo done : List Int) (ow : Array (Option Nat)) (k : Nat), ow.size = mask + 1 → List.Perm (somes ow) (List.range k) → k = done.length →
      (∀ j, (ow.getD j (some 0)).isNone = false → j < ow.size → ∃ d ∈ done, mask ≠ 7 → SetTable.bits d % (mask + 1) = j) →
      (∀ pre h post, todo = pre ++ h :: post → ok (done ++ pre) h) →
      ∃ ow' , todo.foldl (layStep mask) (some (ow, k)) = some (ow', k + todo.length) ∧ ow'.size = mask + 1 ∧ List.Perm (somes ow') (List.range (k + todo.length))
  | [], done, ow, k, hs, hp, hk, hd, hok => ⟨ow, rfl, hs, hp⟩
  | h :: todo, done, ow, k, hs, hp, hk, hd, hok => by
    have hlen : (somes ow).length = done.length := by rw [hp.length_eq, List.length_range, hk]
    have o1 : ok done h := by have := hok [] h todo rfl; simpa using this
    obtain ⟨j, hj, hj'⟩ := found done h ow o1 hs hlen hd
    have hn := none_of_getD (free_spec _ _ _ _ hj)
    have hstep : layStep mask (some (ow, k)) h = some (ow.setIfInBounds j (some k), k + 1) := by
      unfold layStep
      simp only [bind, Option.bind, hj]
      rfl
    rw [List.foldl_cons, hstep]
    have hp' : List.Perm (somes (ow.setIfInBounds j (some k))) (List.range (k + 1)) := by
      unfold somes
      rw [Array.toList_setIfInBounds]
      refine (perm_set_none _ _ _ hn.1).trans ?_
      rw [List.range_succ]
      exact (List.Perm.cons k hp).trans (List.perm_append_singleton k _).symm
    have := lay_run ok found todo (done ++ [h]) (ow.setIfInBounds j (some k)) (k + 1) (by rw [Array.size_setIfInBounds]; exact hs) hp' (by rw [List.length_append, hk]; rfl) (fun j' hj1 hj2 => ?_) (fun pre x post e => ?_)
    · obtain ⟨ow', e1, e2, e3⟩ := this
      refine ⟨ow', ?_, e2, ?_⟩
      · rw [e1, List.length_cons]; congr 2; omega
      · rw [List.length_cons]; have : k + 1 + todo.length = k + (todo.length + 1) := by omega
        rw [← this]; exact e3
    · by_cases e : j' = j
      · subst e
        exact ⟨h, by simp, fun hm => (hj' hm).symm⟩
      · have hsame : (ow.setIfInBounds j (some k)).getD j' (some 0) = ow.getD j' (some 0) := by
          have hj3 : j' < ow.size := by simpa using hj2
          have e' : ¬ j = j' := fun z => e z.symm
          simp [Array.getD, hj3, Array.getElem_setIfInBounds, e']
        rw [hsame] at hj1
        obtain ⟨d, hd1, hd2⟩ := hd j' hj1 (by simpa using hj2)
        exact ⟨d, by simp [hd1], hd2⟩
    · have := hok (h :: pre) x post (by rw [e]; rfl)
      simpa using this

/-- small, unlike hashes: laid without a meeting, or into eight places -/
structure Lays (mask : Nat) (hs : List Int) : Prop where
  small : ∀ h ∈ hs, 0 ≤ h ∧ h < 16
  room : (mask = 7 ∧ hs.length ≤ 7) ∨ (15 ≤ mask ∧ hs.Nodup ∧ hs.length ≤ mask)

theorem bits_small {h : Int} (h0 : 0 ≤ h) (h1 : h < 16) : SetTable.bits h = h.toNat := by
  unfold SetTable.bits
  rw [Int.emod_eq_of_lt h0 (by omega)]

def nx (i : Nat) : Nat := (i * 5 + 1) % 8
def nxs : Nat → Nat → Nat
  | 0, i => i
  | j + 1, i => nxs j (nx i)
theorem nx_all : ∀ i, i < 8 → ∀ m, m < 8 → ∃ j, j < 8 ∧ nxs j i = m := by decide

theorem free7 {ow : Array (Option Nat)} : ∀ (j fuel i p : Nat), j < fuel → p < 32 → i < 8 → (ow.getD (nxs j i) (some 0)).isNone = true → ∃ r, SetTable.layClean.free 7 ow fuel i p = some r
  | j, 0, i, p, h, _, _, _ => by omega
  | j, fuel + 1, i, p, hj, hp, hi, hn => by
    unfold SetTable.layClean.free
    have hr : SetTable.runEnd 7 i = i := by unfold SetTable.runEnd; rw [if_neg (by omega)]
    rw [hr]
    have h1 : i + 1 - i = 1 := by omega
    rw [h1]
    show ∃ r, (match List.find? (fun k => (ow.getD (i + k) (some 0)).isNone) [0] with | some k => some (i + k) | none => _) = some r
    cases hq : (ow.getD (i + 0) (some 0)).isNone with
    | true =>
      rw [List.find?_cons, hq]
      exact ⟨i + 0, rfl⟩
    | false =>
      rw [List.find?_cons, hq]
      dsimp only [List.find?_nil]
      have hl : SetTable.leap 7 i p = (nx i, 0) := by
        unfold SetTable.leap nx
        have : p / 32 = 0 := by omega
        rw [this]
      rw [hl]
      cases j with
      | zero => exact absurd hn (by show ¬ ((ow.getD i (some 0)).isNone = true); rw [Nat.add_zero] at hq; rw [hq]; decide)
      | succ j => exact free7 j fuel (nx i) 0 (by omega) (by omega) (Nat.mod_lt _ (by omega)) hn

theorem some_free {ow : Array (Option Nat)} (h : (somes ow).length < ow.size) : ∃ m, m < ow.size ∧ (ow.getD m (some 0)).isNone = true := by
  have key : ∀ l : List (Option Nat), (l.filterMap id).length < l.length → ∃ m : Nat, l[m]? = some none := by
    intro l
    induction l with
    | nil => intro h; simp at h
    | cons x r ih =>
      intro h
      cases x with
      | none => exact ⟨0, rfl⟩
      | some y =>
        obtain ⟨m, hm⟩ := ih (by simpa using h)
        exact ⟨m + 1, by simpa using hm⟩
  obtain ⟨m, hm⟩ := key ow.toList (by simpa [somes] using h)
  have hlt : m < ow.size := by
    obtain ⟨hlt, _⟩ := List.getElem?_eq_some_iff.mp hm
    simpa using hlt
  refine ⟨m, hlt, ?_⟩
  have e : ow[m]? = some none := by rw [← Array.getElem?_toList]; exact hm
  simp only [Array.getD, hlt, dite_true]
  have : ow[m] = none := by rw [Array.getElem?_eq_getElem hlt] at e; exact Option.some.inj e
  show (ow[m]).isNone = true
  rw [this]; rfl

theorem lays_clean {mask : Nat} {hs : Array Int} (L : Lays mask hs.toList) : ∃ ow, SetTable.layClean mask hs = some ow ∧ ow.size = mask + 1 ∧ List.Perm (somes ow) (List.range hs.size) := by
  have key := lay_run (mask := mask) (fun done h => (0 ≤ h ∧ h < 16) ∧ (∀ d ∈ done, 0 ≤ d ∧ d < 16) ∧ done.length < hs.size ∧ (mask ≠ 7 → h ∉ done)) ?_ hs.toList [] (Array.replicate (mask + 1) none) 0 (by simp) (by simp [somes]) rfl ?_ ?_
  · obtain ⟨ow, e1, e2, e3⟩ := key
    refine ⟨ow, ?_, e2, by simpa using e3⟩
    rw [layClean_eq, e1]; rfl
  · rintro done h ow ⟨hh, hd, hlen, hnot⟩ hsz hl hocc
    have hb := bits_small hh.1 hh.2
    rcases L.room with ⟨rfl, h7⟩ | ⟨h15, hnd, hle⟩
    · obtain ⟨m, hm1, hm2⟩ := some_free (ow := ow) (by rw [hl, hsz]; simp at h7; omega)
      obtain ⟨j, hj1, hj2⟩ := nx_all (SetTable.bits h % (7 + 1)) (Nat.mod_lt _ (by omega)) m (by omega)
      obtain ⟨r, hr⟩ := free7 (ow := ow) j (SetTable.turns 7) (SetTable.bits h % (7 + 1)) (SetTable.bits h) (by unfold SetTable.turns; omega) (by rw [hb]; omega) (Nat.mod_lt _ (by omega)) (by rw [hj2]; exact hm2)
      exact ⟨r, hr, fun z => absurd rfl z⟩
    · have hm : SetTable.bits h % (mask + 1) = h.toNat := by rw [hb]; exact Nat.mod_eq_of_lt (by omega)
      have hfree : (ow.getD (SetTable.bits h % (mask + 1)) (some 0)).isNone = true := by
        cases q : (ow.getD (SetTable.bits h % (mask + 1)) (some 0)).isNone with
        | true => rfl
        | false =>
          obtain ⟨d, hd1, hd2⟩ := hocc _ q (by rw [hsz]; exact Nat.mod_lt _ (by omega))
          have hd3 := hd2 (by omega)
          have hdd := hd d hd1
          rw [bits_small hdd.1 hdd.2, hm, Nat.mod_eq_of_lt (by omega)] at hd3
          have : d = h := by omega
          exact absurd (this ▸ hd1) (hnot (by omega))
      refine ⟨SetTable.bits h % (mask + 1), ?_, fun _ => rfl⟩
      have ht : SetTable.turns mask = (mask + 14) + 1 := by unfold SetTable.turns; omega
      rw [ht]
      unfold SetTable.layClean.free
      have hr : ∃ n, SetTable.runEnd mask (SetTable.bits h % (mask + 1)) + 1 - SetTable.bits h % (mask + 1) = n + 1 := by
        unfold SetTable.runEnd
        split
        · exact ⟨9, by omega⟩
        · exact ⟨0, by omega⟩
      obtain ⟨n, hn⟩ := hr
      rw [hn, List.range_succ_eq_map, List.find?_cons]
      rw [show (ow.getD (SetTable.bits h % (mask + 1) + 0) (some 0)).isNone = true from hfree]
      rfl
  · intro j hj1 hj2
    simp only [Array.size_replicate] at hj2
    exfalso
    simp only [Array.getD, Array.size_replicate, hj2, dite_true] at hj1
    have : (Array.replicate (mask + 1) (none : Option Nat))[j]'(by simpa using hj2) = none := by simp
    rw [show (Array.replicate (mask + 1) (none : Option Nat)).getInternal j (by simpa using hj2) = none from this] at hj1
    cases hj1
  · intro pre h post e
    have hmem : ∀ d ∈ pre, d ∈ hs.toList := fun d hd => by rw [e]; exact List.mem_append_left _ hd
    refine ⟨L.small h (by rw [e]; simp), fun d hd => L.small d (hmem d (by simpa using hd)), ?_, fun h7 => ?_⟩
    · have := congrArg List.length e
      simp at this ⊢
      omega
    · rcases L.room with ⟨z, _⟩ | ⟨_, hnd, _⟩
      · exact absurd z h7
      · rw [e] at hnd
        have := (List.nodup_append.mp hnd).2.2
        intro hm
        exact this h (by simpa using hm) h (by simp) rfl

theorem laid_live {mask : Nat} {ow : Array (Option Nat)} (hs : ow.size = mask + 1) : ((List.range (mask + 1)).filterMap fun j => (ow.getD j none).map (j, ·)).map (·.2) = somes ow := by
  rw [List.map_filterMap]
  have e : (fun j => Option.map (fun x : Nat × Nat => x.2) ((ow.getD j none).map (j, ·))) = fun j => ow.getD j none := by
    funext j
    cases ow.getD j none <;> rfl
  rw [e, ← hs]
  unfold somes
  have : ow.toList = (List.range ow.size).map fun j => ow.getD j none := by
    refine List.ext_getElem (by simp) fun i h1 h2 => ?_
    simp at h1
    simp [Array.getD, h1]
  conv => rhs; rw [this]
  rw [List.filterMap_map]
  rfl

theorem laid_spec {mask finger moves : Nat} {led plain : Bool} {es : Array (Int × Value)} (L : Lays mask (es.map (·.1)).toList) :
    ∃ t order, SetTable.laid mask finger moves led plain (es.map (·.1)) = some (t, order) ∧ List.Perm (order.filterMap (es[·]?)).toList es.toList ∧ t.fits es.size = true := by
  obtain ⟨ow, e1, e2, e3⟩ := lays_clean L
  have hsz : (es.map (·.1)).size = es.size := by simp
  rw [hsz] at e3
  unfold SetTable.laid
  rw [e1]
  refine ⟨_, _, rfl, ?_, ?_⟩
  · rw [Array.toList_filterMap, laid_live e2]
    exact (e3.filterMap _).trans (by rw [filterMap_getElem?_range])
  · have hlen : ((List.range (mask + 1)).filterMap fun j => (ow.getD j none).map (j, ·)).length = es.size := by
      have := congrArg List.length (laid_live e2)
      rw [List.length_map] at this
      rw [this, e3.length_eq, List.length_range]
    simp only [SetTable.fits, SetTable.fill, List.size_toArray, List.length_map, hlen, beq_self_eq_true, Bool.true_and, decide_eq_true_eq]
    have hle : (es.map (·.1)).toList.length ≤ mask := by
      rcases L.room with ⟨rfl, h⟩ | ⟨_, _, h⟩ <;> exact h
    simp at hle
    simpa using hle
end Mine
end

section
open PySem PySem.W PyProof.Rows
set_option Elab.async false
set_option maxRecDepth 100000
set_option maxHeartbeats 4000000
namespace Mine

def reorderedM (es : Array (Int × Value)) (laid : Option (SetTable × Array Nat)) : Sem (Array (Int × Value) × SetTable) := do
  let some (t, order) := laid | unsupported "internal:set-table-without-room"
  let es' := order.filterMap (es[·]?)
  if es'.size != es.size then unsupported "internal:set-table-lost-an-element"
  pure (es', t)

/-- the items of a small set -/
def Small (xs : List Int) : Prop := ∀ k ∈ xs, 0 ≤ k ∧ k < 16

theorem hashInt_small {k : Int} (h : 0 ≤ k ∧ k < 16) : hashInt k = k := by
  have : ∀ n : Nat, n < 16 → hashInt (n : Int) = (n : Int) := by decide
  have := this k.toNat (by omega)
  rwa [Int.toNat_of_nonneg h.1] at this

section
variable {prog : Program} {w : World} {A : Around} {E : Value → Shared → Prop} {s : Shared} {a : Addr} {o : Obj} {xs : List Int} {k : Int} {tk : Tok}

theorem SOK.hashes {es : Array (Int × Value)} {t : SetTable} (S : SOK prog w es t xs) (hs : Small xs) : (es.map (·.1)).toList = es.toList.map fun e => keyOf e.2 := by
  rw [Array.toList_map]
  refine List.map_congr_left fun e he => ?_
  obtain ⟨t', h1, h2⟩ := el_key S.el he
  rw [h2]
  exact hashInt_small (hs _ (S.pm.mem_iff.mp (List.mem_map.mpr ⟨e, he, rfl⟩)))

theorem SOK.lays {es : Array (Int × Value)} {t : SetTable} {mask : Nat} (S : SOK prog w es t xs) (hs : Small xs) (hm : (mask = 7 ∧ xs.length ≤ 7) ∨ (15 ≤ mask ∧ xs.length ≤ mask)) : Lays mask (es.map (·.1)).toList := by
  rw [S.hashes hs]
  have hl : (es.toList.map fun e => keyOf e.2).length = xs.length := S.pm.length_eq
  refine ⟨fun h hh => hs h (S.pm.mem_iff.mp hh), ?_⟩
  rcases hm with ⟨h1, h2⟩ | ⟨h1, h2⟩
  · exact .inl ⟨h1, by omega⟩
  · exact .inr ⟨h1, S.pm.nodup_iff.mpr S.nd, by omega⟩

theorem wpAny_reordered {es : Array (Int × Value)} {t t' : SetTable} {order : Array Nat} {Q : Array (Int × Value) × SetTable → Shared → Prop}
    (hp : List.Perm (order.filterMap (es[·]?)).toList es.toList) (h : Q (order.filterMap (es[·]?), t') s) : wpAny (model prog w) A (reorderedM es (some (t', order))) Q E s := by
  unfold reorderedM
  dsimp only
  have : (order.filterMap (es[·]?)).size = es.size := by
    rw [← Array.length_toList, hp.length_eq, Array.length_toList]
  rw [this]
  simp only [bne_self_eq_false, Bool.false_eq_true, ↓reduceIte]
  exact wpAny_pure h

theorem wpAny_setRelay_S {wanted : Nat} {Q : Unit → Shared → Prop} (ho : s.heap.get? a = some o) (S : SetO prog w o xs) (hs : Small xs) (hz : SetTable.sizeAbove wanted ≤ sizeLine) (hb : xs.length < scanBound)
    (hm : (SetTable.sizeAbove wanted - 1 = 7 ∧ xs.length ≤ 7) ∨ (15 ≤ SetTable.sizeAbove wanted - 1 ∧ xs.length ≤ SetTable.sizeAbove wanted - 1))
    (h : ∀ h' o', Heap.SameBut a s.heap h' → h'.get? a = some o' → SameHead o o' → SetO prog w o' xs → (∀ es' ep' t', o'.data = .set es' ep' t' → t'.mask = SetTable.sizeAbove wanted - 1 ∧ t'.dummies = #[]) → Q () { s with heap := h' }) :
    wpAny (model prog w) A (setRelay a wanted) Q E s := by
  unfold setRelay
  refine wpAny_bind (wpAny_setState_S ho S fun es ep t hd S' => ?_)
  dsimp only
  rw [if_neg (by omega)]
  obtain ⟨t', order, e1, e2, e3⟩ := laid_spec (finger := t.finger) (moves := t.movedTo (SetTable.sizeAbove wanted - 1)) (led := t.led) (plain := t.plain) (S'.lays hs hm)
  have e1' : t.relaid (es.map (·.1)) wanted = some (t', order) := e1
  rw [e1']
  show wpAny _ _ (reorderedM es (some (t', order)) >>= _) _ _ _
  refine wpAny_bind (wpAny_reordered (t := t) e2 ?_)
  dsimp only
  have hsz : (order.filterMap (es[·]?)).size = es.size := by
    rw [← Array.length_toList, e2.length_eq, Array.length_toList]
  refine wpAny_storeSet_S ho hd (fits_of_scanBound (by rw [hsz, S'.sz]; exact hb)) fun h' hs' hg => ?_
  refine h h' _ hs' hg ⟨rfl, rfl, rfl⟩ ⟨_, _, _, rfl, S'.el.perm e2, (e2.map _).trans S'.pm, S'.nd, by rw [hsz]; exact e3⟩ ?_
  intro es' ep' t'' e
  cases e
  unfold SetTable.laid at e1
  simp only [bind, Option.bind] at e1
  split at e1
  · cases e1
  · cases e1; exact ⟨rfl, rfl⟩

theorem sizeAbove_small : ∀ n, n ≤ 64 → SetTable.sizeAbove n ≤ 128 ∧ SetTable.sizeAbove n > n ∧ (8 ≤ n → 16 ≤ SetTable.sizeAbove n) ∧ (n < 8 → SetTable.sizeAbove n = 8) := by decide

theorem wpAny_setTidy_S {Q : Unit → Shared → Prop} (ho : s.heap.get? a = some o) (S : SetO prog w o xs) (hs : Small xs) (hb : xs.length ≤ 16)
    (h : ∀ h' o', Heap.SameBut a s.heap h' → h'.get? a = some o' → SameHead o o' → SetO prog w o' xs → Q () { s with heap := h' }) : wpAny (model prog w) A (setTidy a) Q E s := by
  unfold setTidy
  refine wpAny_bind (wpAny_setState_S ho S fun es ep t hd S' => ?_)
  dsimp only
  split
  · have hg : SetTable.grown es.size = 4 * xs.length := by
      rw [S'.sz]; unfold SetTable.grown; rw [if_neg (by omega)]; omega
    rw [hg]
    have hsa := sizeAbove_small (4 * xs.length) (by omega)
    refine wpAny_setRelay_S ho S hs (by rw [sizeLine_eq]; omega) (by unfold scanBound; omega) ?_ fun h' o' h1 h2 h3 h4 _ => h h' o' h1 h2 h3 h4
    by_cases h2 : xs.length < 2
    · exact .inl ⟨by rw [hsa.2.2.2 (by omega)], by omega⟩
    · exact .inr ⟨by have := hsa.2.2.1 (by omega); omega, by omega⟩
  · exact wpAny_pure (h s.heap o (Heap.SameBut.refl a s.heap) ho (.refl o) S)

/-- a set just made -/
structure FreshSet (o : Obj) : Prop where
  data : ∃ led, o.data = .set #[] 0 (.fresh 0 0 led)
theorem FreshSet.set (F : FreshSet o) : SetO prog w o [] := by
  obtain ⟨led, h⟩ := F.data
  exact ⟨#[], 0, _, h, fun e he => by simp at he, by simp, List.nodup_nil, rfl⟩

theorem wpAny_setMerge_fresh {b : Addr} {ob : Obj} {Q : Unit → Shared → Prop} {each : Sem Unit} (ho : s.heap.get? a = some o) (hf : FreshSet o) (hob : s.heap.get? b = some ob) (S : SetO prog w ob xs) (hne : a ≠ b) (hs : Small xs) (hb : xs.length ≤ 16)
    (h : ∀ h' o', Heap.SameBut a s.heap h' → h'.get? a = some o' → SameHead o o' → SetO prog w o' xs → Q () { s with heap := h' }) : wpAny (model prog w) A (setMerge a b each) Q E s := by
  unfold setMerge
  rw [if_neg (by simpa using hne)]
  refine wpAny_bind (wpAny_setState_S hob S fun es ep t hd S' => ?_)
  dsimp only
  have hsz := S'.sz
  by_cases he : es.isEmpty = true
  · rw [if_pos he]
    have : xs = [] := by
      have h0 : es.size = 0 := by simpa using he
      exact List.length_eq_zero_iff.mp (by omega)
    subst this
    exact wpAny_pure (h s.heap o (Heap.SameBut.refl a s.heap) ho (.refl o) hf.set)
  · rw [if_neg he]
    obtain ⟨led, hd0⟩ := hf.data
    have room : wpAny (model prog w) A (setRoomFor a es.size) (fun _ s' => ∃ h₁ o₁ m₁ ld pl mv fg ep₁, s' = { s with heap := h₁ } ∧ Heap.SameBut a s.heap h₁ ∧ h₁.get? a = some o₁ ∧ SameHead o o₁ ∧
        o₁.data = .set #[] ep₁ { mask := m₁, place := #[], dummies := #[], finger := fg, led := ld, moves := mv, plain := pl } ∧ ((m₁ = 7 ∧ xs.length ≤ 7) ∨ (15 ≤ m₁ ∧ xs.length ≤ m₁))) E s := by
      unfold setRoomFor
      refine wpAny_bind (wpAny_setState_of ho hd0 rfl ?_)
      have hrf : (SetTable.fresh 0 0 led).roomFor es.size = if ((0 + 0) + es.size) * 5 ≥ 7 * 3 then some ((0 + es.size) * 2) else none := rfl
      dsimp only
      rw [hrf]
      by_cases hn : es.size * 5 ≥ 21
      · rw [if_pos (by omega)]
        dsimp only
        have hsa := sizeAbove_small ((0 + es.size) * 2) (by omega)
        have hw : 8 ≤ (0 + es.size) * 2 := by omega
        unfold setRelay
        refine wpAny_bind (wpAny_setState_of ho hd0 rfl ?_)
        dsimp only
        rw [if_neg (by rw [sizeLine_eq]; omega)]
        obtain ⟨t', order, e1, e2, e3⟩ := laid_spec (finger := 0) (moves := (SetTable.fresh 0 0 led).movedTo (SetTable.sizeAbove ((0 + es.size) * 2) - 1)) (led := led) (plain := true) (es := #[]) (mask := SetTable.sizeAbove ((0 + es.size) * 2) - 1)
          ⟨by simp, .inr ⟨by have := hsa.2.2.1 hw; omega, by simp, by simp⟩⟩
        have e1' : (SetTable.fresh 0 0 led).relaid ((#[] : Array (Int × Value)).map (·.1)) ((0 + es.size) * 2) = some (t', order) := e1
        rw [e1']
        show wpAny _ _ (reorderedM #[] (some (t', order)) >>= _) _ _ _
        refine wpAny_bind (wpAny_reordered (t := t) e2 ?_)
        dsimp only
        have hor : order.filterMap ((#[] : Array (Int × Value))[·]?) = #[] := by
          have := e2.length_eq
          exact Array.eq_empty_of_size_eq_zero (by rw [← Array.length_toList, this]; rfl)
        rw [hor]
        refine wpAny_storeSet_S ho hd0 (by simp) fun h₁ hs₁ hg₁ => ?_
        unfold SetTable.laid at e1
        simp only [bind, Option.bind] at e1
        split at e1
        · cases e1
        · cases e1
          have hp : (List.map (fun x => x.1) (List.filterMap (fun j => Option.map (fun x => (j, x)) (Array.getD (‹Array (Option Nat)›) j none)) (List.range (SetTable.sizeAbove ((0 + es.size) * 2) - 1 + 1)))).toArray = #[] := by
            simp only [SetTable.fits, Bool.and_eq_true, beq_iff_eq] at e3
            exact Array.eq_empty_of_size_eq_zero e3.1
          refine ⟨h₁, _, _, _, _, _, _, _, rfl, hs₁, hg₁, ⟨rfl, rfl, rfl⟩, by dsimp only; rw [hp], .inr ⟨by have := hsa.2.2.1 hw; omega, by omega⟩⟩
      · rw [if_neg (by omega)]
        dsimp only
        exact wpAny_pure ⟨s.heap, o, _, _, _, _, _, _, rfl, Heap.SameBut.refl a s.heap, ho, .refl o, hd0, .inl ⟨rfl, by omega⟩⟩
    refine wpAny_bind (wpAny_mono room (fun _ s' hr => ?_) fun _ _ z => z)
    obtain ⟨h₁, o₁, m₁, ld, pl, mv, fg, ep₁, rfl, hs₁, hg₁, hh₁, hd₁, hm₁⟩ := hr
    refine wpAny_bind (wpAny_setState_of (s := { s with heap := h₁ }) hg₁ hd₁ rfl ?_)
    dsimp only
    have hz : es.size ≤ sizeLine := fits_of_scanBound (by unfold scanBound; omega)
    have hroad : SetTable.road { mask := m₁, place := #[], dummies := #[], finger := fg, led := ld, moves := mv, plain := pl } t = .slotForSlot ∨ SetTable.road { mask := m₁, place := #[], dummies := #[], finger := fg, led := ld, moves := mv, plain := pl } t = .clean := by
      unfold SetTable.road
      rw [if_neg (by simp [SetTable.fill])]
      split
      · exact .inl rfl
      · exact .inr rfl
    rcases hroad with hr | hr <;> rw [hr] <;> dsimp only
    · refine wpAny_storeSet_S (s := { s with heap := h₁ }) hg₁ hd₁ hz fun h' hs' hg' => ?_
      exact h h' _ (hs₁.trans hs') hg' (hh₁.trans ⟨rfl, rfl, rfl⟩) ⟨_, _, _, rfl, S'.el, S'.pm, S'.nd, S'.ft⟩
    · obtain ⟨t', order, e1, e2, e3⟩ := laid_spec (finger := fg) (moves := mv) (led := ld && t.led) (plain := pl && t.plain) (S'.lays hs hm₁)
      rw [e1]
      show wpAny _ _ (reorderedM es (some (t', order)) >>= _) _ _ _
      refine wpAny_bind (wpAny_reordered (t := t) e2 ?_)
      dsimp only
      have hsz' : (order.filterMap (es[·]?)).size = es.size := by
        rw [← Array.length_toList, e2.length_eq, Array.length_toList]
      refine wpAny_storeSet_S (s := { s with heap := h₁ }) hg₁ hd₁ (by rw [hsz']; exact hz) fun h' hs' hg' => ?_
      exact h h' _ (hs₁.trans hs') hg' (hh₁.trans ⟨rfl, rfl, rfl⟩) ⟨_, _, _, rfl, S'.el.perm e2, (e2.map _).trans S'.pm, S'.nd, by rw [hsz']; exact e3⟩
end
end Mine
end

section
open PySem PySem.W PyProof.Rows PySem.Builtin.Frozenset
set_option Elab.async false
set_option maxRecDepth 100000
set_option maxHeartbeats 4000000
namespace Mine

theorem pick_perm {α : Type} (nxt : Nat → Nat) : ∀ (fuel k : Nat) (l : List α) (out : Array α), l.length ≤ fuel → List.Perm (pickOrder.go nxt fuel k l out).toList (out.toList ++ l)
  | 0, k, l, out, h => by
    have : l = [] := List.length_eq_zero_iff.mp (by omega)
    subst this
    simp [pickOrder.go]
  | fuel + 1, k, l, out, h => by
    unfold pickOrder.go
    split
    · rename_i x hx
      have hlt : nxt k % l.length < l.length := by
        obtain ⟨hl, _⟩ := List.getElem?_eq_some_iff.mp hx
        exact hl
      have hx' : l[nxt k % l.length] = x := by
        obtain ⟨_, e⟩ := List.getElem?_eq_some_iff.mp hx
        exact e
      have ih := pick_perm nxt fuel (k + 1) (l.eraseIdx (nxt k % l.length)) (out.push x) (by rw [List.length_eraseIdx]; simp [hlt]; omega)
      refine ih.trans ?_
      rw [Array.toList_push, List.append_assoc]
      refine List.Perm.append_left _ ?_
      show List.Perm (x :: l.eraseIdx _) l
      rw [← hx']
      exact getElem_eraseIdx_perm hlt
    · rename_i hx
      have : l = [] := by
        cases l with
        | nil => rfl
        | cons y r =>
          exfalso
          have := List.getElem?_eq_none_iff.mp hx
          have h2 : nxt k % (y :: r).length < (y :: r).length := Nat.mod_lt _ (by simp)
          omega
      subst this
      simp

section
variable {prog : Program} {w : World} {A : Around} {E : Value → Shared → Prop} {s : Shared} {a : Addr} {o : Obj} {xs : List Int} {k : Int} {tk : Tok}

theorem wpAny_setsByText {Q : Bool → Shared → Prop} (h : ∀ b, Q b s) : wpAny (model prog w) A setsByText Q E s := by
  unfold setsByText
  exact wpAny_bind (wpAny_askSetting (wpAny_pure (h _)))

/-- an order of the items -/
theorem SOK.order {es es' : Array (Int × Value)} {t : SetTable} (S : SOK prog w es t xs) (p : List.Perm es'.toList es.toList) : ElemsOf (IK prog w) es'.toList ∧ List.Perm (es'.toList.map fun e => keyOf e.2) xs :=
  ⟨S.el.perm p, (p.map _).trans S.pm⟩

theorem wpAny_setWalk_S {es : Array (Int × Value)} {ep : Nat} {t : SetTable} {Q : Array (Int × Value) → Shared → Prop} (ho : s.heap.get? a = some o) (hd : o.data = .set es ep t) (hf : t.fits es.size = true)
    (ok : (w.params.followText "set-order" || (t.led && t.plain) || decide (es.size ≤ 1)) = true)
    (h : ∀ es' : Array (Int × Value), List.Perm es'.toList es.toList → Q es' s) : wpAny (model prog w) A (setWalk a) Q E s := by
  unfold setWalk
  refine wpAny_bind (wpAny_setState_of ho hd hf ?_)
  dsimp only
  unfold setsByText
  refine wpAny_bind (wpAny_bind (wpAny_askSetting (wpAny_pure ?_)))
  show wpAny _ _ (if w.params.followText "set-order" = true then _ else _) _ _ _
  cases hb : w.params.followText "set-order" with
  | true =>
    rw [if_pos rfl]
    refine wpAny_bind (wpAny_askSetting (wpAny_pure (h _ ?_)))
    unfold pickOrder
    refine (pick_perm _ _ _ _ _ (by simp)).trans ?_
    simp
  | false =>
    rw [if_neg (by decide)]
    rw [hb] at ok
    simp only [Bool.false_or, Bool.or_eq_true, Bool.and_eq_true, decide_eq_true_eq] at ok
    show wpAny _ _ (if (!t.plain && decide (es.size > 1)) = true then _ else _) _ _ _
    rw [if_neg (by rcases ok with ⟨_, h2⟩ | h2 <;> simp [h2])]
    show wpAny _ _ ((if (!t.led && decide (es.size > 1)) = true then unsupported "set:maker-not-led" else pure ()) >>= _) _ _ _
    rw [if_neg (by rcases ok with ⟨h2, _⟩ | h2 <;> simp [h2])]
    exact wpAny_bind (wpAny_pure (wpAny_pure (h es (List.Perm.refl _))))

theorem wpAny_setsQuiet_S {Q : Bool → Shared → Prop} (l : List Addr) (hl : ∀ b ∈ l, ∃ ob ys, s.heap.get? b = some ob ∧ SetO prog w ob ys) (h : Q true s) : wpAny (model prog w) A (setsQuiet l) Q E s := by
  unfold setsQuiet
  refine wpAny_bind ?_
  refine wpAny_mono (wpAny_forIn_list _ (fun rest r s' => s' = s ∧ r = (none, ()) ∧ ∀ b ∈ rest, b ∈ l) (fun r s' => s' = s ∧ r = (none, ())) ?_ (fun r s' h => ⟨h.1, h.2.1⟩) l (none, ()) ⟨rfl, rfl, fun _ h => h⟩) (fun r s' hr => ?_) fun _ _ z => z
  · rintro b rest r s' ⟨rfl, rfl, hb⟩
    obtain ⟨ob, ys, hob, S⟩ := hl b (hb b (.head _))
    refine wpAny_bind (wpAny_setEntries_S hob S fun es ep t hd S' => ?_)
    refine wpAny_bind ?_
    refine wpAny_mono (wpAny_forIn_array' _ (fun rest' r s'' => s'' = s' ∧ r = (none, ()) ∧ ∀ e ∈ rest', e ∈ es.toList) (fun r s'' => s'' = s' ∧ r = (none, ())) ?_ (fun r s' h => ⟨h.1, h.2.1⟩) es (none, ()) ⟨rfl, rfl, fun _ h => h⟩) (fun r s'' hr => ?_) fun _ _ z => z
    · rintro ⟨hh, x⟩ rest' r s'' ⟨rfl, rfl, he⟩
      obtain ⟨t', ht, _⟩ := el_key S'.el (he _ (.head _))
      dsimp only at ht ⊢
      rw [ht]
      dsimp only
      exact wpAny_pure ⟨rfl, rfl, fun e h => he e (.tail _ h)⟩
    · obtain ⟨rfl, rfl⟩ := hr
      exact wpAny_pure ⟨rfl, rfl, fun e h => hb e (.tail _ h)⟩
  · obtain ⟨rfl, rfl⟩ := hr
    exact wpAny_pure h

theorem wpAny_setWalkUnseen_S {b : Addr} {ob : Obj} {ys : List Int} {Q : Array (Int × Value) → Shared → Prop} (hob : s.heap.get? b = some ob) (S : SetO prog w ob ys) (ho : s.heap.get? a = some o) (Sa : SetO prog w o xs)
    (hb : xs.length < scanBound)
    (h : ∀ (es' : Array (Int × Value)) h' o', ElemsOf (IK prog w) es'.toList → List.Perm (es'.toList.map fun e => keyOf e.2) ys → Heap.SameBut a s.heap h' → h'.get? a = some o' → SameHead o o' → SetO prog w o' xs → Q es' { s with heap := h' }) :
    wpAny (model prog w) A (setWalkUnseen b [a] (some a)) Q E s := by
  unfold setWalkUnseen
  refine wpAny_bind (wpAny_setState_S hob S fun es ep t hd S' => ?_)
  dsimp only
  unfold setsByText
  refine wpAny_bind (wpAny_bind (wpAny_askSetting (wpAny_pure ?_)))
  have same : ∀ es' : Array (Int × Value), List.Perm es'.toList es.toList → Q es' s := fun es' p =>
    h es' s.heap o (S'.order p).1 (S'.order p).2 (Heap.SameBut.refl a s.heap) ho (.refl o) Sa
  show wpAny _ _ (if (w.params.followText "set-order" || (t.led && t.plain) || decide (es.size ≤ 1)) = true then _ else _) _ _ _
  cases hc : (w.params.followText "set-order" || (t.led && t.plain) || decide (es.size ≤ 1)) with
  | true =>
    rw [if_pos rfl]
    exact wpAny_setWalk_S hob hd S'.ft hc fun es' p => same es' p
  | false =>
    rw [if_neg (by decide)]
    refine wpAny_bind (wpAny_setsQuiet_S _ (fun c hc => ?_) ?_)
    · rcases List.mem_cons.mp hc with rfl | hc
      · exact ⟨ob, ys, hob, S⟩
      · rw [List.mem_singleton] at hc; subst hc; exact ⟨o, xs, ho, Sa⟩
    · simp only [Bool.not_true, Bool.false_eq_true, ↓reduceIte]
      refine wpAny_bind (wpAny_rule ?_)
      refine wpAny_bind (wpAny_setState_S ho Sa fun ef epf tf hdf Sf => ?_)
      dsimp only
      split
      · refine wpAny_bind (wpAny_storeSet_S ho hdf (fits_of_scanBound (by rw [Sf.sz]; exact hb)) fun h' hs' hg' => ?_)
        refine wpAny_pure (h es h' _ (S'.order (List.Perm.refl _)).1 (S'.order (List.Perm.refl _)).2 hs' hg' ⟨rfl, rfl, rfl⟩ ⟨_, _, _, rfl, Sf.el, Sf.pm, Sf.nd, Sf.ft⟩)
      · exact wpAny_pure (same es (List.Perm.refl _))
end
end Mine
end

section
open PySem PySem.W PyProof.Rows PySem.Builtin.Frozenset
set_option Elab.async false
set_option maxRecDepth 100000
set_option maxHeartbeats 4000000
namespace Mine

def SetCls (M : Model) (h : Heap) (c : Value) : Prop := Looks M h (isSubtype c (.type "set")) true
theorem SetCls.keeps {M : Model} {h h' : Heap} {c : Value} (x : SetCls M h c) (k : ∀ b o, h.get? b = some o → h'.get? b = some o) : SetCls M h' c := Looks.keeps x k
theorem setCls_set {M : Model} {h : Heap} : SetCls M h (.type "set") := Looks.of_pure (by rw [isSubtype_type]; kernel_rfl)

theorem looks_typeOf {M : Model} {h : Heap} {a : Addr} {o : Obj} (ho : h.get? a = some o) : Looks M h (typeOf (.ref a)) o.cls := (Looks.ld ho).andThen .now

namespace F
theorem sub_dict_set : isSubtype (.type "dict") (.type "set") = pure false := by rw [isSubtype_type]; kernel_rfl
theorem sub_dict_frozenset : isSubtype (.type "dict") (.type "frozenset") = pure false := by rw [isSubtype_type]; kernel_rfl
end F

def updL (xs ys : List Int) : List Int := ys.foldl addL xs
theorem mem_updL {ys : List Int} : ∀ {xs : List Int} {k : Int}, k ∈ updL xs ys ↔ k ∈ xs ∨ k ∈ ys := by
  induction ys with
  | nil => intro xs k; simp [updL]
  | cons y r ih =>
    intro xs k
    show k ∈ updL (addL xs y) r ↔ _
    rw [ih, mem_addL]
    simp [or_assoc]
theorem updL_nodup {ys : List Int} : ∀ {xs : List Int}, xs.Nodup → (updL xs ys).Nodup := by
  induction ys with
  | nil => exact id
  | cons y r ih => exact fun h => ih (addL_nodup h)
theorem updL_length {ys : List Int} : ∀ {xs : List Int}, (updL xs ys).length ≤ xs.length + ys.length := by
  induction ys with
  | nil => intro xs; simp [updL]
  | cons y r ih =>
    intro xs
    have h1 := ih (xs := addL xs y)
    have h2 := addL_length (xs := xs) (k := y)
    show (updL (addL xs y) r).length ≤ _
    simp only [List.length_cons]
    omega

theorem same_perm {xs ys : List Int} (hx : xs.Nodup) (hy : ys.Nodup) (h : ∀ k, k ∈ xs ↔ k ∈ ys) : xs.Perm ys := (List.perm_ext_iff_of_nodup hx hy).mpr h

theorem nodup_le {zs : List Int} : ∀ {xs : List Int}, zs.Nodup → (∀ k ∈ zs, k ∈ xs) → zs.length ≤ xs.length := by
  induction zs with
  | nil => intro xs _ _; simp
  | cons z r ih =>
    intro xs hn hs
    have hz := hs z (.head _)
    have hn' := List.nodup_cons.mp hn
    have := ih (xs := xs.erase z) hn'.2 fun k hk => (List.mem_erase_of_ne (fun (e : k = z) => hn'.1 (e ▸ hk))).mpr (hs k (.tail _ hk))
    rw [List.length_erase_of_mem hz] at this
    have hp : 0 < xs.length := List.length_pos_of_mem hz
    simp only [List.length_cons]
    omega
theorem all_of_full {zs xs : List Int} (hn : zs.Nodup) (hs : ∀ k ∈ zs, k ∈ xs) (hl : xs.length ≤ zs.length) : ∀ k ∈ xs, k ∈ zs := by
  intro k hk
  apply Classical.byContradiction
  intro hk'
  have := nodup_le (xs := xs.erase k) hn fun j hj => (List.mem_erase_of_ne (fun (e : j = k) => hk' (e ▸ hj))).mpr (hs j hj)
  rw [List.length_erase_of_mem hk] at this
  have hp : 0 < xs.length := List.length_pos_of_mem hk
  omega

theorem SetO.same {prog : Program} {w : World} {o : Obj} {xs ys : List Int} (S : SetO prog w o xs) (hy : ys.Nodup) (h : ∀ k, k ∈ xs ↔ k ∈ ys) : SetO prog w o ys := S.perm (same_perm S.nd hy h)

section
variable {prog : Program} {w : World} {A : Around} {E : Value → Shared → Prop} {s : Shared} {a : Addr} {o : Obj} {xs ys : List Int} {k : Int} {tk : Tok}

theorem wpAny_isAnySet_set {Q : Bool → Shared → Prop} (ho : s.heap.get? a = some o) (hc : SetCls (model prog w) s.heap o.cls) (h : Q true s) : wpAny (model prog w) A (isAnySet (.ref a)) Q E s := by
  unfold isAnySet isInstance
  refine wpAny_bind (wpAny_bind ((looks_typeOf ho).here (Looks.here hc ?_)))
  exact wpAny_pure h

theorem wpAny_isAnySet_list {l : Addr} {items : Array Value} {Q : Bool → Shared → Prop} (hl : s.heap.IsList l items) (h : Q false s) : wpAny (model prog w) A (isAnySet (.ref l)) Q E s := by
  obtain ⟨ol, hol, hcl, _⟩ := hl
  have T := looks_typeOf (M := model prog w) hol
  rw [hcl] at T
  unfold isAnySet isInstance
  refine wpAny_bind (wpAny_bind (T.here ?_))
  rw [PySem.F.sub_list_set]
  refine wpAny_pure ?_
  refine wpAny_bind (T.here ?_)
  rw [PySem.F.sub_list_frozenset]
  exact wpAny_pure h

theorem wpAny_baseOf {Q : Value → Shared → Prop} (ho : s.heap.get? a = some o) (hc : SetCls (model prog w) s.heap o.cls) (h : Q (.type "set") s) : wpAny (model prog w) A (baseOf a) Q E s := by
  unfold baseOf isInstance
  refine wpAny_bind (wpAny_bind ((looks_typeOf ho).here (Looks.here hc ?_)))
  exact wpAny_pure h

theorem wpAny_newSet_set {Q : Value → Shared → Prop}
    (h : ∀ o, FreshSet o → o.cls = .type "set" → o.dict = none → o.slots = #[] → o.isFreed = false → Q (.ref s.heap.objs.size) { s with heap := s.heap.push o }) : wpAny (model prog w) A (newSet (.type "set")) Q E s := by
  unfold newSet setsByText
  refine wpAny_bind (wpAny_bind (wpAny_askSetting (wpAny_pure ?_)))
  dsimp only
  simp only [newObj]
  refine wpAny_bind (wpAny_alloc (wpAny_pure (h _ ⟨_, rfl⟩ rfl rfl rfl rfl)))

theorem wpAny_newSet_cls {C : Addr} {oc : Obj} {cd : ClassData} {Q : Value → Shared → Prop} (hC : s.heap.get? C = some oc) (hcd : oc.data = .cls cd) (hdel : cd.hasDel = false)
    (h : ∀ o, FreshSet o → o.cls = .ref C → o.dict = some s.heap.objs.size → o.slots = #[] → o.isFreed = false → Q (.ref (s.heap.objs.size + 1)) { s with heap := (s.heap.push { cls := .type "dict", data := .dict #[] }).push o }) :
    wpAny (model prog w) A (newSet (.ref C)) Q E s := by
  unfold newSet setsByText
  refine wpAny_bind (wpAny_bind (wpAny_askSetting (wpAny_pure ?_)))
  dsimp only
  refine wpAny_bind (wpAny_alloc ?_)
  simp only [newObj]
  unfold newObjAsIs classHasDel
  refine wpAny_bind (wpAny_alloc (wpAny_bind (wpAny_bind (wpAny_load (o := oc) (Heap.get?_push_of_some _ (Heap.get?_push_of_some _ hC)) ?_))))
  rw [hcd]
  dsimp only
  refine wpAny_pure ?_
  rw [hdel]
  refine wpAny_pure ?_
  rw [Heap.size_push]
  exact h _ ⟨_, rfl⟩ rfl rfl rfl rfl

/-- a list's iterator just made -/
theorem walks_list {l : Addr} {vs : List Value} (hh : A.handled = none) (hl : s.heap.IsList l vs.toArray) (hI : IntsAre vs ys) :
    Walks prog w A s.heap.objs.size [s.heap.objs.size, l] [s.heap.objs.size] vs.toArray.size (fun i v => vs.toArray[i]? = some v) (fun i h => h.IsListIter s.heap.objs.size l i ∧ h.IsList l vs.toArray) ∧ HandsInts (fun i v => vs.toArray[i]? = some v) ys ∧ ys.length = vs.toArray.size ∧ l ≠ s.heap.objs.size := by
  obtain ⟨ol, hol, r⟩ := hl
  have hne : l ≠ s.heap.objs.size := Nat.ne_of_lt (Heap.lt_size hol)
  refine ⟨Walks.list hh _ _ hne _, fun i v hv => ?_, by rw [List.size_toArray]; exact hI.length.symm, hne⟩
  obtain ⟨y, t, e, hy⟩ := IntsAre.at hI i v (by simpa using hv)
  exact ⟨y, t, hy, e⟩

theorem iter_at {l : Addr} {vs : List Value} (hl : s.heap.IsList l vs.toArray) :
    (s.heap.push { cls := .type "list_iterator", data := .fields #[.ref l, .int 0 0] }).IsListIter s.heap.objs.size l 0 ∧ (s.heap.push { cls := .type "list_iterator", data := .fields #[.ref l, .int 0 0] }).IsList l vs.toArray :=
  ⟨⟨_, Heap.get?_push_size _ rfl, rfl, rfl⟩, let ⟨o, ho, r⟩ := hl; ⟨o, Heap.get?_push_of_some _ ho, r⟩⟩

/-- what stays but a -/
abbrev KeptBut (W : List Addr) (h h' : Heap) : Prop := ∀ b ob, b ∉ W → h.get? b = some ob → h'.get? b = some ob

theorem wpAny_update_list {l : Addr} {vs : List Value} {id : String} {Q : Unit → Shared → Prop} (hh : A.handled = none) (ho : s.heap.get? a = some o) (S : SetO prog w o xs) (hl : s.heap.IsList l vs.toArray) (hI : IntsAre vs ys) (hb : xs.length + ys.length < scanBound)
    (h : ∀ h' tk o', KeptBut [a] s.heap h' → h'.get? a = some o' → SameHead o o' → SetO prog w o' (updL xs ys) → Q () { s with heap := h', toks := tk }) :
    wpAny (model prog w) A (updateFrom id a (.ref l)) Q E s := by
  unfold updateFrom
  refine wpAny_bind (wpAny_isAnySet_list hl ?_)
  simp only [Bool.false_eq_true, ↓reduceIte]
  have hl' := hl
  obtain ⟨ol, hol, hcl, _⟩ := hl'
  have T := looks_typeOf (M := model prog w) hol
  rw [hcl] at T
  refine wpAny_bind (T.here ?_)
  rw [if_neg (by decide)]
  refine wpAny_bind (wpAny_pyIter_list hl ?_)
  refine wpAny_bind (wpAny_runValue ?_)
  obtain ⟨W, hP, hn, hne⟩ := walks_list (prog := prog) (w := w) (A := A.in1) (s := s) hh hl hI
  have hlt : a < s.heap.objs.size := Heap.lt_size ho
  have hla : a ≠ l := by rintro rfl; rw [hol] at ho; cases ho; obtain ⟨_, _, _, hd, _⟩ := S; obtain ⟨_, h1, _, n, h2⟩ := hl; rw [hol] at h1; cases h1; rw [h2] at hd; cases hd
  refine codeAny_update_loop_S (o := o) (xs := xs) W (by simp; exact ⟨Nat.ne_of_lt hlt, hla⟩) hn hP vs.toArray.size 0 _ rfl (Nat.zero_le _) (iter_at hl) (Heap.get?_push_of_some _ ho) S (by rw [← hn]; omega) fun h' tk o' hk hg hh' hS' => ?_
  refine wpAny_pure (h h' tk o' (fun b ob hb' e => hk b ob ?_ (Heap.get?_push_of_some _ e)) hg hh' (by simpa [updL] using hS'))
  simp only [List.mem_cons, List.not_mem_nil, or_false, not_or] at hb' ⊢
  exact ⟨hb', Nat.ne_of_lt (Heap.lt_size e)⟩
end
end Mine
end

section
open PySem PySem.W PyProof.Rows PySem.Builtin.Frozenset
set_option Elab.async false
set_option maxRecDepth 100000
set_option maxHeartbeats 4000000
namespace Mine

def letGoOfM : Option (List Value) → Sem Unit
  | some old => letGo (old.filter fun | .ref _ => true | _ => false)
  | none => point

def flipL (xs : List Int) (k : Int) : List Int := if k ∈ xs then xs.erase k else xs ++ [k]
theorem mem_flipL {xs : List Int} {k j : Int} (hn : xs.Nodup) : j ∈ flipL xs k ↔ (j ∈ xs ∧ j ≠ k) ∨ (j ∉ xs ∧ j = k) := by
  unfold flipL
  split
  · rename_i h
    by_cases e : j = k
    · subst e
      simp [h, hn.not_mem_erase]
    · rw [List.mem_erase_of_ne e]; simp [e]
  · rename_i h
    by_cases e : j = k
    · subst e; simp [h]
    · simp [e]
theorem flipL_nodup {xs : List Int} {k : Int} (hn : xs.Nodup) : (flipL xs k).Nodup := by
  unfold flipL
  split
  · exact hn.erase k
  · rename_i hk
    exact List.nodup_append.mpr ⟨hn, by simp, fun a ha b hb e => by simp at hb; exact hk (hb ▸ e ▸ ha)⟩
theorem mem_flips {ks : List Int} : ∀ {xs : List Int} {j : Int}, ks.Nodup → xs.Nodup → (j ∈ ks.foldl flipL xs ↔ (j ∈ xs ∧ j ∉ ks) ∨ (j ∉ xs ∧ j ∈ ks)) := by
  induction ks with
  | nil => intro xs j _ _; simp
  | cons k r ih =>
    intro xs j hk hn
    have hk' := List.nodup_cons.mp hk
    rw [List.foldl_cons, ih hk'.2 (flipL_nodup hn), mem_flipL hn]
    by_cases e : j = k
    · subst e
      by_cases hj : j ∈ xs <;> simp [hj, hk'.1]
    · by_cases hj : j ∈ xs <;> simp [hj, e]
theorem flips_nodup {ks : List Int} : ∀ {xs : List Int}, xs.Nodup → (ks.foldl flipL xs).Nodup := by
  induction ks with
  | nil => exact id
  | cons k r ih => exact fun h => ih (flipL_nodup h)
theorem flipL_length {xs : List Int} {k : Int} : (flipL xs k).length ≤ xs.length + 1 := by
  unfold flipL
  split
  · have : (xs.erase k).length ≤ xs.length := List.length_erase_le
    omega
  · simp

section
variable {prog : Program} {w : World} {A : Around} {E : Value → Shared → Prop} {s : Shared} {a : Addr} {o : Obj} {xs ys : List Int} {k : Int} {tk : Tok}

theorem wpAny_letGoOfM {x : Option (List Value)} {Q : Unit → Shared → Prop} (h : Q () s) : wpAny (model prog w) A (letGoOfM x) Q E s := by
  cases x with
  | none => exact wpAny_point h
  | some old => exact wpAny_letGo h

theorem wpAny_takeOver_S {r : Addr} {or : Obj} {Q : Unit → Shared → Prop} (ho : s.heap.get? a = some o) (S : SetO prog w o xs) (hr : s.heap.get? r = some or) (Sr : SetO prog w or ys) (hb : ys.length < scanBound)
    (h : ∀ h' o', Heap.SameBut a s.heap h' → h'.get? a = some o' → SameHead o o' → SetO prog w o' ys → Q () { s with heap := h' }) : wpAny (model prog w) A (takeOver a r) Q E s := by
  unfold takeOver
  show wpAny _ _ (setSwap a r >>= fun old => letGoOfM old) _ _ _
  refine wpAny_bind ?_
  unfold setSwap setDeathsKnown
  have rest : ∀ old : Option (List Value), wpAny (model prog w) A (do
      let (er, _, tr) ← setState r
      let ts := (← setState a).2.2
      storeSet a er { tr with finger := ts.finger, moves := ts.movedTo tr.mask, plain := tr.plain && (ts.plain || ts.finger == 0), led := tr.led && (ts.led || ts.finger == 0) }
      return old) (fun old s' => wpAny (model prog w) A (letGoOfM old) Q E s') E s := by
    intro old
    refine wpAny_bind (wpAny_setState_S hr Sr fun er epr tr hdr Sr' => ?_)
    dsimp only
    refine wpAny_bind (wpAny_setState_S ho S fun es ep t hd S' => ?_)
    refine wpAny_bind (wpAny_storeSet_S ho hd (fits_of_scanBound (by rw [Sr'.sz]; exact hb)) fun h' hs' hg' => ?_)
    exact wpAny_pure (wpAny_letGoOfM (h h' _ hs' hg' ⟨rfl, rfl, rfl⟩ ⟨_, _, _, rfl, Sr'.el, Sr'.pm, Sr'.nd, Sr'.ft⟩))
  refine wpAny_bind (wpAny_bind (wpAny_setState_S ho S fun es ep t hd S' => ?_))
  dsimp only
  unfold setsByText
  refine wpAny_bind (wpAny_bind (wpAny_askSetting (wpAny_pure (wpAny_pure ?_))))
  show wpAny _ _ (if (w.params.followText "set-order" || (t.led && t.plain) || decide (es.size ≤ 1)) = true then _ else _) _ _ _
  cases hc : (w.params.followText "set-order" || (t.led && t.plain) || decide (es.size ≤ 1)) with
  | true =>
    rw [if_pos rfl]
    unfold setItems
    refine wpAny_bind (wpAny_bind (wpAny_setWalk_S ho hd S'.ft hc fun es' p => wpAny_pure ?_))
    exact wpAny_bind (wpAny_pure (rest _))
  | false =>
    rw [if_neg (by decide)]
    exact wpAny_bind (wpAny_pure (rest _))
end

section
variable {prog : Program} {w : World} {A : Around} {R : Result → Shared → Prop} {I S T : Addr} {fp wr : List Addr} {n : Nat} {P : Nat → Value → Prop} {St : Nat → Heap → Prop} {ys xs : List Int} {oS : Obj}

theorem codeAny_intersection_loop_S (W : Walks prog w A.in1 I fp wr n P St) (hSf : S ∉ wr) (hTf : T ∉ fp) (hST : S ≠ T) (hn : ys.length = n) (hP : HandsInts P ys) (SS : SetO prog w oS xs) (hb : xs.length + 1 < scanBound) :
    ∀ (k i : Nat) (s : Shared) (o : Obj) (zs : List Int), n - i = k → i ≤ n → St i s.heap → s.heap.get? S = some oS → s.heap.get? T = some o → SetO prog w o zs → (∀ k ∈ zs, k ∈ xs) →
      (∀ h' tk o' zs', (∀ b ob, b ∉ T :: wr → s.heap.get? b = some ob → h'.get? b = some ob) → h'.get? T = some o' → SameHead o o' → SetO prog w o' zs' → (∀ k, k ∈ zs' ↔ k ∈ zs ∨ (k ∈ xs ∧ k ∈ ys.drop i)) → R (.ok (.ret .none)) { s with heap := h', toks := tk }) →
      codeAny (model prog w) A (.builtin "frozenset.intersection.loop" ⟨[.ref S, .ref I, .ref T], []⟩) R s := by
  have hTw : T ∉ wr := fun h => hTf (W.sub _ h)
  intro k
  induction k with
  | zero =>
    intro i s o zs hk hi hst hoS ho hS hsub hR
    have hin : i = n := by omega
    subst hin
    refine codeAny_builtin F.entry_iloop ?_
    rw [Around.under_plainId F.plain_iloop _]
    show wpAny _ A.in1 (pyNext (.ref I) >>= _) _ _ s
    refine wpAny_bind (W.done s _ _ hst fun h' tk hm => ?_)
    show wpAny _ A.in1 (ret Value.none) _ _ _
    refine wpAny_pure (hR h' tk o zs (fun b ob hb' e => hm b ob (fun h => hb' (.tail _ h)) e) (hm _ _ hTw ho) (.refl o) hS fun k => ?_)
    rw [List.drop_of_length_le (by omega)]; simp
  | succ k ih =>
    intro i s o zs hk hi hst hoS ho hS hsub hR
    have hlt : i < n := by omega
    have hzl : zs.length ≤ xs.length := nodup_le hS.nd hsub
    refine codeAny_builtin F.entry_iloop ?_
    rw [Around.under_plainId F.plain_iloop _]
    show wpAny _ A.in1 (pyNext (.ref I) >>= _) _ _ s
    refine wpAny_bind (W.item i s _ _ hlt hst fun v h₁ tk₁ hPv hst₁ hk₁ => ?_)
    obtain ⟨y, t, hy, rfl⟩ := hP i v hPv
    have hdrop : ∀ k, k ∈ ys.drop i ↔ k = y ∨ k ∈ ys.drop (i + 1) := fun k => by
      obtain ⟨hlt', hy'⟩ := List.getElem?_eq_some_iff.mp hy
      rw [List.drop_eq_getElem_cons hlt', hy', List.mem_cons]
    show wpAny _ A.in1 (holding [Value.int y t] (pyHash (.int y t)) >>= _) _ _ _
    refine wpAny_bind (wpAny_holding ((IK prog w).pyHash (k := y) (intKind_is _ _ _ _) ?_))
    refine wpAny_bind (wpAny_holding (wpAny_setFind_S (s := { s with heap := h₁, toks := tk₁ + 1 }) (hk₁ _ _ hSf hoS) SS (by omega) fun r _ hr => ?_))
    rw [hr]
    have go : ∀ (h₂ : Heap) (o₂ : Obj) (zs₂ : List Int), Heap.SameBut T h₁ h₂ → h₂.get? T = some o₂ → SameHead o o₂ → SetO prog w o₂ zs₂ → (∀ k, k ∈ zs₂ ↔ k ∈ zs ∨ (k = y ∧ y ∈ xs)) →
        codeAny (model prog w) A (.builtin "frozenset.intersection.loop" ⟨[.ref S, .ref I, .ref T], []⟩) R { s with heap := h₂, toks := tk₁ + 1 } := by
      intro h₂ o₂ zs₂ hsb hg hh hS₂ hz₂
      refine ih (i + 1) { s with heap := h₂, toks := tk₁ + 1 } o₂ zs₂ (by omega) hlt (W.frame _ _ _ hst₁ fun b hb o e => ?_) ?_ hg hS₂ ?_ fun h' tk o' zs' hkp hg' hh' hS' hz' => ?_
      · rw [hsb.2 b (fun h : b = T => hTf (by rw [← h]; exact hb))]; exact e
      · show h₂.get? S = some oS
        rw [hsb.2 S hST]; exact hk₁ _ _ hSf hoS
      · intro k hk; rcases (hz₂ k).mp hk with h | ⟨rfl, h⟩
        · exact hsub k h
        · exact h
      · refine hR h' tk o' zs' (fun b ob hb' e => hkp b ob hb' ?_) hg' (hh.trans hh') hS' fun k => ?_
        · show h₂.get? b = some ob
          rw [hsb.2 b (fun h : b = T => hb' (by rw [h]; exact .head _))]
          exact hk₁ b ob (fun h => hb' (.tail _ h)) e
        · rw [hz' k, hz₂ k, hdrop k]
          constructor
          · rintro ((h | ⟨rfl, h⟩) | ⟨h1, h2⟩)
            · exact .inl h
            · exact .inr ⟨h, .inl rfl⟩
            · exact .inr ⟨h1, .inr h2⟩
          · rintro (h | ⟨h1, (rfl | h2)⟩)
            · exact .inl (.inl h)
            · exact .inl (.inr ⟨rfl, h1⟩)
            · exact .inr ⟨h1, h2⟩
    by_cases hyx : y ∈ xs
    · simp only [hyx, decide_true, ↓reduceIte]
      refine wpAny_bind (wpAny_holding (wpAny_setAddHashed_S (s := { s with heap := h₁, toks := tk₁ + 1 }) (hk₁ _ _ hTw ho) hS (by omega) fun h₂ o₂ hsb hg hh hS₂ => ?_))
      unfold Builtin.Frozenset.sizeOf
      have hz₂ : ∀ k, k ∈ addL zs y ↔ k ∈ zs ∨ (k = y ∧ y ∈ xs) := fun k => by rw [mem_addL]; simp [hyx]
      refine wpAny_bind (wpAny_bind (wpAny_setEntries_S (s := { s with heap := h₂, toks := tk₁ + 1 }) hg hS₂ fun es2 _ _ _ S2 => wpAny_pure ?_))
      have hoS₂ : h₂.get? S = some oS := by rw [hsb.2 S hST]; exact hk₁ _ _ hSf hoS
      refine wpAny_bind (wpAny_bind (wpAny_setEntries_S (s := { s with heap := h₂, toks := tk₁ + 1 }) hoS₂ SS fun es1 _ _ _ S1 => wpAny_pure ?_))
      rw [S2.sz, S1.sz]
      split
      · rename_i hge
        refine wpAny_bind (wpAny_rule ?_)
        have hall := all_of_full (zs := addL zs y) (xs := xs) S2.nd (fun k hk => by rcases (hz₂ k).mp hk with h | ⟨rfl, h⟩; exact hsub k h; exact h) hge
        refine wpAny_pure (hR h₂ _ o₂ _ (fun b ob hb' e => ?_) hg hh hS₂ fun k => ?_)
        · rw [hsb.2 b (fun h : b = T => hb' (by rw [h]; exact .head _))]
          exact hk₁ b ob (fun h => hb' (.tail _ h)) e
        · constructor
          · intro hk
            rcases (hz₂ k).mp hk with h | ⟨rfl, h⟩
            · exact .inl h
            · exact .inr ⟨h, (hdrop _).mpr (.inl rfl)⟩
          · rintro (h | ⟨h, _⟩)
            · exact (hz₂ k).mpr (.inl h)
            · exact hall k h
      · exact wpAny_pure ⟨plainId_quiet F.plain_iloop _, go h₂ o₂ _ hsb hg hh hS₂ hz₂⟩
    · simp only [hyx, decide_false, Bool.false_eq_true, ↓reduceIte]
      exact wpAny_pure ⟨plainId_quiet F.plain_iloop _, go h₁ o zs (Heap.SameBut.refl _ _) (hk₁ _ _ hTw ho) (.refl o) hS fun k => by simp [hyx]⟩
end
end Mine
end

section
open PySem PySem.W PyProof.Rows PySem.Builtin.Frozenset
set_option Elab.async false
set_option maxRecDepth 100000
set_option maxHeartbeats 4000000
namespace Mine

theorem nin1 {a b : Addr} (h : a ≠ b) : a ∉ [b] := by simpa using h
theorem nin2 {a b c : Addr} (h : a ≠ b) (h' : a ≠ c) : a ∉ [b, c] := by simp [h, h']
theorem ne_lt {a b : Nat} (h : a < b) : a ≠ b := Nat.ne_of_lt h
theorem ne_lt1 {a b : Nat} (h : a < b) : a ≠ b + 1 := by omega
theorem ne_gt {a b : Nat} (h : a < b) : b ≠ a := Nat.ne_of_gt h

section
variable {prog : Program} {w : World} {A : Around} {E : Value → Shared → Prop} {s : Shared} {a : Addr} {o : Obj} {xs ys : List Int} {k : Int} {tk : Tok}

theorem set_ne_list {h : Heap} {a l : Addr} {items : Array Value} (ho : h.get? a = some o) (S : SetO prog w o xs) (hl : h.IsList l items) : a ≠ l := by
  rintro rfl
  obtain ⟨_, _, _, hd, _⟩ := S
  obtain ⟨_, h1, _, n, h2⟩ := hl
  rw [ho] at h1; cases h1; rw [h2] at hd; cases hd

/-- a copy in a plain set -/
theorem wpAny_copyOf_S {Q : Value → Shared → Prop} (ho : s.heap.get? a = some o) (hc : SetCls (model prog w) s.heap o.cls) (S : SetO prog w o xs) (hs : Small xs) (hb : xs.length ≤ 16)
    (h : ∀ r h' o', KeptBut [] s.heap h' → s.heap.get? r = none → h'.get? r = some o' → o'.cls = .type "set" → o'.dict = none → o'.slots = #[] → SetO prog w o' xs → Q (.ref r) { s with heap := h' }) :
    wpAny (model prog w) A (copyOf a) Q E s := by
  unfold copyOf
  refine wpAny_bind (wpAny_baseOf ho hc (wpAny_bind (wpAny_newSet_set fun o₁ hf hcl hd hsl hfr => ?_)))
  unfold addrOf
  refine wpAny_bind (wpAny_pure ?_)
  have hlt := Heap.lt_size ho
  refine wpAny_bind (wpAny_setMerge_fresh (s := { s with heap := s.heap.push o₁ }) (Heap.get?_push_size _ hfr) hf (Heap.get?_push_of_some _ ho) S (Nat.ne_of_gt hlt) hs hb fun h' o' hsb hg hh hS' => ?_)
  refine wpAny_pure (h _ h' o' (fun b ob _ e => ?_) ?_ hg (hh.cls.trans hcl) (hh.dict.trans hd) (hh.slots.trans hsl) hS')
  · rw [hsb.2 b (Nat.ne_of_lt (Heap.lt_size e))]; exact Heap.get?_push_of_some _ e
  · cases e : s.heap.get? s.heap.objs.size with
    | none => rfl
    | some ob => exact absurd (Heap.lt_size e) (Nat.lt_irrefl _)

theorem fresh_at (h : Heap) : h.get? h.objs.size = none := by
  cases e : h.get? h.objs.size with
  | none => rfl
  | some ob => exact absurd (Heap.lt_size e) (Nat.lt_irrefl _)
theorem fresh_ge {h : Heap} {a : Addr} (ha : h.objs.size ≤ a) : h.get? a = none := by
  cases e : h.get? a with
  | none => rfl
  | some ob => exact absurd (Heap.lt_size e) (Nat.not_lt.mpr ha)

theorem wpAny_intersection_list {l : Addr} {vs : List Value} {id : String} {Q : Value → Shared → Prop} (hh : A.handled = none) (ho : s.heap.get? a = some o) (hc : SetCls (model prog w) s.heap o.cls) (S : SetO prog w o xs)
    (hl : s.heap.IsList l vs.toArray) (hI : IntsAre vs ys) (hb : xs.length + 1 < scanBound)
    (h : ∀ r h' tk o' zs, KeptBut [] s.heap h' → s.heap.get? r = none → h'.get? r = some o' → o'.cls = .type "set" → o'.dict = none → o'.slots = #[] → SetO prog w o' zs → (∀ k, k ∈ zs ↔ k ∈ xs ∧ k ∈ ys) → Q (.ref r) { s with heap := h', toks := tk }) :
    wpAny (model prog w) A (intersection id a (.ref l)) Q E s := by
  have hla := set_ne_list ho S hl
  unfold intersection
  rw [if_neg (by simp; exact fun e => hla e.symm)]
  refine wpAny_bind (wpAny_baseOf ho hc (wpAny_bind (wpAny_newSet_set fun o₁ hf hcl hd hsl hfr => ?_)))
  unfold addrOf
  refine wpAny_bind (wpAny_pure ?_)
  have hlt := Heap.lt_size ho
  have hl₁ : (s.heap.push o₁).IsList l vs.toArray := let ⟨ol, hol, r⟩ := hl; ⟨ol, Heap.get?_push_of_some _ hol, r⟩
  have hll : l < s.heap.objs.size := let ⟨ol, hol, r⟩ := hl; Heap.lt_size hol
  refine wpAny_bind (wpAny_holding ?_)
  refine wpAny_bind (wpAny_isAnySet_list (s := { s with heap := s.heap.push o₁ }) hl₁ ?_)
  simp only [Bool.false_eq_true, ↓reduceIte]
  refine wpAny_bind (wpAny_pyIter_list (s := { s with heap := s.heap.push o₁ }) hl₁ ?_)
  refine wpAny_bind (wpAny_runValue ?_)
  obtain ⟨W, hP, hn, hne⟩ := walks_list (prog := prog) (w := w) (A := A.in1) (s := { s with heap := s.heap.push o₁ }) hh hl₁ hI
  have hs1 : (s.heap.push o₁).objs.size = s.heap.objs.size + 1 := Heap.size_push _ _
  dsimp only at W hP hn hne ⊢
  rw [hs1] at W hne
  have hit := iter_at (s := { s with heap := s.heap.push o₁ }) hl₁
  dsimp only at hit
  rw [hs1] at hit ⊢
  refine codeAny_intersection_loop_S (S := a) (T := s.heap.objs.size) (oS := o) (ys := ys) W (nin1 (ne_lt1 hlt)) (nin2 (ne_lt (Nat.lt_succ_self _)) (ne_gt hll)) (ne_lt hlt) hn hP S hb vs.toArray.size 0 _ o₁ [] rfl (Nat.zero_le _) hit (Heap.get?_push_of_some _ (Heap.get?_push_of_some _ ho)) (Heap.get?_push_of_some _ (Heap.get?_push_size _ hfr)) hf.set (fun k hk => by simp at hk) fun h' tk o' zs' hk hg hh' hS' hz => ?_
  refine wpAny_pure (wpAny_pure (h _ h' tk o' zs' (fun b ob _ e => hk b ob ?_ (Heap.get?_push_of_some _ (Heap.get?_push_of_some _ e))) (fresh_at _) hg (hh'.cls.trans hcl) (hh'.dict.trans hd) (hh'.slots.trans hsl) hS' fun k => by rw [hz k]; simp))
  exact nin2 (ne_lt (Heap.lt_size e)) (ne_lt1 (Heap.lt_size e))

theorem wpAny_difference_list {l : Addr} {vs : List Value} {id : String} {Q : Unit → Shared → Prop} (hh : A.handled = none) (ho : s.heap.get? a = some o) (S : SetO prog w o xs)
    (hl : s.heap.IsList l vs.toArray) (hI : IntsAre vs ys) (hs : Small xs) (hb : xs.length ≤ 16)
    (h : ∀ h' tk o' zs, KeptBut [a] s.heap h' → h'.get? a = some o' → SameHead o o' → SetO prog w o' zs → (∀ k, k ∈ zs ↔ k ∈ xs ∧ k ∉ ys) → Q () { s with heap := h', toks := tk }) :
    wpAny (model prog w) A (differenceUpdate id a (.ref l)) Q E s := by
  have hla := set_ne_list ho S hl
  unfold differenceUpdate
  rw [if_neg (by simp; exact fun e => hla e.symm)]
  refine wpAny_bind (wpAny_isAnySet_list hl ?_)
  simp only [Bool.false_eq_true, ↓reduceIte]
  refine wpAny_bind (wpAny_pyIter_list hl ?_)
  refine wpAny_bind (wpAny_runValue ?_)
  obtain ⟨W, hP, hn, hne⟩ := walks_list (prog := prog) (w := w) (A := A.in1) (s := s) hh hl hI
  have hlt := Heap.lt_size ho
  have hll : l < s.heap.objs.size := let ⟨ol, hol, r⟩ := hl; Heap.lt_size hol
  refine codeAny_difference_loop_S (o := o) (xs := xs) W (nin2 (ne_lt hlt) hla) hn hP vs.toArray.size 0 _ rfl (Nat.zero_le _) (iter_at hl) (Heap.get?_push_of_some _ ho) S (by unfold scanBound; omega) fun h' tk o' hk hg hh' hS' => ?_
  have hsub : ∀ (l : List Int) (xs : List Int), (∀ k ∈ l.foldl List.erase xs, k ∈ xs) ∧ (l.foldl List.erase xs).length ≤ xs.length := by
    intro l
    induction l with
    | nil => exact fun xs => ⟨fun k h => h, Nat.le_refl _⟩
    | cons y r ih =>
      intro xs
      refine ⟨fun k hk => List.mem_of_mem_erase ((ih _).1 k hk), Nat.le_trans (ih _).2 ?_⟩
      exact List.length_erase_le
  have hmem : ∀ (l : List Int) (xs : List Int), xs.Nodup → ∀ k, k ∈ l.foldl List.erase xs ↔ k ∈ xs ∧ k ∉ l := by
    intro l
    induction l with
    | nil => intro xs _ k; simp
    | cons y r ih =>
      intro xs hn k
      rw [List.foldl_cons, ih _ (hn.erase y)]
      by_cases e : k = y
      · subst e; simp [hn.not_mem_erase]
      · rw [List.mem_erase_of_ne e]; simp [e]
  rw [List.drop_zero] at hS'
  refine wpAny_setTidy_S (s := { s with heap := h', toks := tk }) hg hS' (fun k hk => hs k ((hsub ys xs).1 k hk)) (Nat.le_trans (hsub ys xs).2 hb) fun h'' o'' hsb hg'' hh'' hS'' => ?_
  refine h h'' tk o'' _ (fun b ob hb' e => ?_) hg'' (hh'.trans hh'') hS'' (hmem ys xs S.nd)
  simp only [List.mem_cons, List.not_mem_nil, or_false] at hb'
  rw [hsb.2 b hb']
  refine hk b ob ?_ (Heap.get?_push_of_some _ e)
  exact nin2 hb' (ne_lt (Heap.lt_size e))

theorem wpAny_symdiff_list {l : Addr} {vs : List Value} {id : String} {Q : Unit → Shared → Prop} (hh : A.handled = none) (ho : s.heap.get? a = some o) (hc : SetCls (model prog w) s.heap o.cls) (S : SetO prog w o xs)
    (hl : s.heap.IsList l vs.toArray) (hI : IntsAre vs ys) (hb : xs.length + ys.length + 1 < scanBound)
    (h : ∀ h' tk o' zs, KeptBut [a] s.heap h' → h'.get? a = some o' → SameHead o o' → SetO prog w o' zs → (∀ k, k ∈ zs ↔ (k ∈ xs ∧ k ∉ ys) ∨ (k ∉ xs ∧ k ∈ ys)) → Q () { s with heap := h', toks := tk }) :
    wpAny (model prog w) A (symmetricDifferenceUpdate id a (.ref l)) Q E s := by
  have hla := set_ne_list ho S hl
  unfold symmetricDifferenceUpdate
  rw [if_neg (by simp; exact fun e => hla e.symm)]
  have hl' := hl
  obtain ⟨ol, hol, hcl, _⟩ := hl'
  have T := looks_typeOf (M := model prog w) hol
  rw [hcl] at T
  refine wpAny_bind (T.here ?_)
  rw [if_neg (by decide)]
  refine wpAny_bind (wpAny_isAnySet_list hl ?_)
  simp only [Bool.false_eq_true, ↓reduceIte]
  refine wpAny_bind (wpAny_baseOf ho hc ?_)
  refine wpAny_bind ?_
  unfold newFrom
  refine wpAny_bind (wpAny_newSet_set fun o₁ hf hcl₁ hd₁ hsl₁ hfr => ?_)
  have hlt := Heap.lt_size ho
  have hll : l < s.heap.objs.size := Heap.lt_size hol
  have hl₁ : (s.heap.push o₁).IsList l vs.toArray := let ⟨ol, hol, r⟩ := hl; ⟨ol, Heap.get?_push_of_some _ hol, r⟩
  unfold addrOf
  refine wpAny_bind (wpAny_pure ?_)
  refine wpAny_bind (wpAny_holding ?_)
  refine wpAny_update_list (s := { s with heap := s.heap.push o₁ }) (xs := []) hh (Heap.get?_push_size _ hfr) hf.set hl₁ hI (by simp; omega) fun h₂ tk₂ o₂ hk₂ hg₂ hh₂ hS₂ => ?_
  refine wpAny_pure ?_
  refine wpAny_bind (wpAny_pure ?_)
  have keep₂ : ∀ b ob, s.heap.get? b = some ob → h₂.get? b = some ob := fun b ob e => hk₂ b ob (by simp; exact Nat.ne_of_lt (Heap.lt_size e)) (Heap.get?_push_of_some _ e)
  refine wpAny_bind (wpAny_setEpoch_S (s := { s with heap := h₂, toks := tk₂ }) hg₂ hS₂ fun es₂ ep₂ t₂ hd₂ _ => ?_)
  refine wpAny_holding ?_
  refine wpAny_bind (wpAny_setWalkUnseen_S (s := { s with heap := h₂, toks := tk₂ }) hg₂ hS₂ (keep₂ _ _ ho) S (by omega) fun es' h₃ o₃ hel hpm hsb₃ hg₃ hh₃ hS₃ => ?_)
  have hne : s.heap.objs.size ≠ a := Nat.ne_of_gt hlt
  have hnd : (updL [] ys).Nodup := updL_nodup List.nodup_nil
  have hul : (updL [] ys).length ≤ ys.length := by have := updL_length (xs := []) (ys := ys); simpa using this
  refine wpAny_bind ?_
  refine wpAny_mono (wpAny_forIn_array' _ (fun rest _ s' => ∃ h₄ o₄ zs, s' = { s with heap := h₄, toks := tk₂ } ∧ Heap.SameBut a h₃ h₄ ∧ h₄.get? a = some o₄ ∧ SameHead o₃ o₄ ∧ SetO prog w o₄ zs ∧ zs.length + rest.length ≤ xs.length + ys.length ∧
      (∀ e ∈ rest, e ∈ es'.toList) ∧ (rest.map fun e => keyOf e.2).foldl flipL zs = (es'.toList.map fun e => keyOf e.2).foldl flipL xs)
    (fun _ s' => ∃ h₄ o₄ zs, s' = { s with heap := h₄, toks := tk₂ } ∧ Heap.SameBut a h₃ h₄ ∧ h₄.get? a = some o₄ ∧ SameHead o₃ o₄ ∧ SetO prog w o₄ zs ∧ zs = (es'.toList.map fun e => keyOf e.2).foldl flipL xs) ?_ ?_ es' PUnit.unit ?_) (fun _ s' hq => ?_) fun _ _ z => z
  · rintro ⟨hk, x⟩ rest u s' ⟨h₄, o₄, zs, rfl, hsb₄, hg₄, hh₄, hS₄, hlen, hin, hfold⟩
    obtain ⟨t', ht, hhash⟩ := el_key hel (hin _ (.head _))
    dsimp only at ht hhash ⊢
    rw [ht, hhash]
    replace hfold : (rest.map fun e => keyOf e.2).foldl flipL (flipL zs (keyOf x)) = (es'.toList.map fun e => keyOf e.2).foldl flipL xs := hfold
    generalize keyOf x = y at *
    have step : ∀ (h₅ : Heap) (o₅ : Obj), Heap.SameBut a h₃ h₅ → h₅.get? a = some o₅ → SameHead o₃ o₅ → SetO prog w o₅ (flipL zs y) →
        wpAny (model prog w) A (unchanged id s.heap.objs.size ep₂) (fun r s' => wpAny (model prog w) A (pure (ForInStep.yield PUnit.unit)) (fun r s' => match r with
          | .yield b' => ∃ h₄ o₄ zs, s' = { s with heap := h₄, toks := tk₂ } ∧ Heap.SameBut a h₃ h₄ ∧ h₄.get? a = some o₄ ∧ SameHead o₃ o₄ ∧ SetO prog w o₄ zs ∧ zs.length + rest.length ≤ xs.length + ys.length ∧
            (∀ e ∈ rest, e ∈ es'.toList) ∧ (rest.map fun e => keyOf e.2).foldl flipL zs = (es'.toList.map fun e => keyOf e.2).foldl flipL xs
          | .done b' => ∃ h₄ o₄ zs, s' = { s with heap := h₄, toks := tk₂ } ∧ Heap.SameBut a h₃ h₄ ∧ h₄.get? a = some o₄ ∧ SameHead o₃ o₄ ∧ SetO prog w o₄ zs ∧ zs = (es'.toList.map fun e => keyOf e.2).foldl flipL xs) E s') E { s with heap := h₅, toks := tk₂ } := by
      intro h₅ o₅ hsb₅ hg₅ hh₅ hS₅
      have hgo : h₅.get? s.heap.objs.size = some o₂ := by rw [hsb₅.2 _ hne, hsb₃.2 _ hne]; exact hg₂
      unfold unchanged
      refine wpAny_bind (wpAny_setEpoch_S (s := { s with heap := h₅, toks := tk₂ }) hgo hS₂ fun es₆ ep₆ t₆ hd₆ _ => ?_)
      rw [hd₂] at hd₆
      cases hd₆
      simp only [bne_self_eq_false, Bool.false_eq_true, ↓reduceIte]
      refine wpAny_pure (wpAny_pure ⟨h₅, o₅, _, rfl, hsb₅, hg₅, hh₅, hS₅, ?_, fun e he => hin e (.tail _ he), ?_⟩)
      · have := flipL_length (xs := zs) (k := y)
        simp only [List.length_cons] at hlen
        omega
      · exact hfold
    refine wpAny_bind (wpAny_holding ?_)
    refine wpAny_bind (wpAny_setDiscardHashed_S (s := { s with heap := h₄, toks := tk₂ }) hg₄ hS₄ (by simp only [List.length_cons] at hlen; omega) fun h₅ o₅ hsb₅ hg₅ hh₅ hS₅ => ?_)
    by_cases hy : y ∈ zs
    · simp only [hy, decide_true, Bool.not_true, Bool.false_eq_true, ↓reduceIte]
      refine wpAny_pure (wpAny_bind (step h₅ o₅ (hsb₄.trans hsb₅) hg₅ (hh₄.trans hh₅) ?_))
      unfold flipL; rw [if_pos hy]; exact hS₅
    · simp only [hy, decide_false, Bool.not_false, ↓reduceIte]
      rw [List.erase_of_not_mem hy] at hS₅
      refine wpAny_bind (wpAny_setAddHashed_S (s := { s with heap := h₅, toks := tk₂ }) hg₅ hS₅ (by simp only [List.length_cons] at hlen; omega) fun h₆ o₆ hsb₆ hg₆ hh₆ hS₆ => ?_)
      refine wpAny_pure (wpAny_bind (step h₆ o₆ ((hsb₄.trans hsb₅).trans hsb₆) hg₆ ((hh₄.trans hh₅).trans hh₆) ?_))
      unfold flipL; rw [if_neg hy]; rw [addL_of_not hy] at hS₆; exact hS₆
  · rintro u s' ⟨h₄, o₄, zs, e1, e2, e3, e4, e5, _, _, e6⟩
    exact ⟨h₄, o₄, zs, e1, e2, e3, e4, e5, e6⟩
  · have := hpm.length_eq
    simp only [List.length_map] at this
    exact ⟨h₃, o₃, xs, rfl, Heap.SameBut.refl _ _, hg₃, .refl _, hS₃, by omega, fun e he => he, rfl⟩
  · obtain ⟨h₄, o₄, zs, rfl, hsb₄, hg₄, hh₄, hS₄, hz⟩ := hq
    refine wpAny_pure (h h₄ tk₂ o₄ zs (fun b ob hb' e => ?_) hg₄ (hh₃.trans hh₄) hS₄ fun k => ?_)
    · simp only [List.mem_cons, List.not_mem_nil, or_false] at hb'
      rw [hsb₄.2 b hb', hsb₃.2 b hb']; exact keep₂ b ob e
    · rw [hz, mem_flips (hpm.nodup_iff.mpr hnd) S.nd, hpm.mem_iff, mem_updL]
      simp
end
end Mine
end

section
open PySem PySem.W PyProof.Rows PySem.Builtin.Frozenset PySem.Calls Builtin Builtin.ObjectAttr
set_option Elab.async false
set_option maxRecDepth 100000
set_option maxHeartbeats 4000000
namespace Mine

/-- a method or a slot of set's: what its call asks -/
structure SB (i : String) (n : String) (b : Builtin) : Prop where
  kind : builtinKind i = some .slot ∨ builtinKind i = some .method
  split : splitId i = some ("set", n)
  plain : plainId i = true
  entry : entryFor table i = some b
  bind : ∀ self, bindSpecial (.builtin i) self = pure (.builtin i, [self])

theorem SB.of {i n : String} {b : Builtin} (hsplit : splitId i = some ("set", n)) (hop : withoutEnding? i "#opaque" = none) (hdat : withoutEnding? i "#data" = none)
    (hkind : (Manifest.find? "set").bind (·.attrs.lookup n) = some .slot ∨ (Manifest.find? "set").bind (·.attrs.lookup n) = some .method) (entry : entryFor table i = some b) (hq : plainId i = true) : SB i n b := by
  have hk : builtinKind i = (Manifest.find? "set").bind (·.attrs.lookup n) := by simp only [builtinKind, hsplit]
  refine ⟨by rw [hk]; exact hkind, hsplit, hq, entry, fun self => ?_⟩
  rcases hkind with h | h <;> (simp only [bindSpecial, typeOf, builtinType, hop, hdat, hk, h]; rfl)

namespace SF
theorem add : SB "set.add" "add" Builtin.«set.add» := .of (by decide +kernel) (by decide +kernel) (by decide +kernel) (.inr (by decide +kernel)) (entryFor_of_tree (by kernel_rfl)) (by decide +kernel)
theorem remove : SB "set.remove" "remove" Builtin.«set.remove» := .of (by decide +kernel) (by decide +kernel) (by decide +kernel) (.inr (by decide +kernel)) (entryFor_of_tree (by kernel_rfl)) (by decide +kernel)
theorem update : SB "set.update" "update" Builtin.«set.update» := .of (by decide +kernel) (by decide +kernel) (by decide +kernel) (.inr (by decide +kernel)) (entryFor_of_tree (by kernel_rfl)) (by decide +kernel)
theorem init : SB "set.__init__" "__init__" Builtin.«set.__init__» := .of (by decide +kernel) (by decide +kernel) (by decide +kernel) (.inl (by decide +kernel)) (entryFor_of_tree (by kernel_rfl)) (by decide +kernel)
theorem inter_update : SB "set.intersection_update" "intersection_update" Builtin.«set.intersection_update» := .of (by decide +kernel) (by decide +kernel) (by decide +kernel) (.inr (by decide +kernel)) (entryFor_of_tree (by kernel_rfl)) (by decide +kernel)
theorem diff_update : SB "set.difference_update" "difference_update" Builtin.«set.difference_update» := .of (by decide +kernel) (by decide +kernel) (by decide +kernel) (.inr (by decide +kernel)) (entryFor_of_tree (by kernel_rfl)) (by decide +kernel)
theorem sym_update : SB "set.symmetric_difference_update" "symmetric_difference_update" Builtin.«set.symmetric_difference_update» := .of (by decide +kernel) (by decide +kernel) (by decide +kernel) (.inr (by decide +kernel)) (entryFor_of_tree (by kernel_rfl)) (by decide +kernel)
theorem contains : SB "set.__contains__" "__contains__" Builtin.«frozenset.__contains__» := .of (by decide +kernel) (by decide +kernel) (by decide +kernel) (.inr (by decide +kernel)) (entryFor_alias (id' := "frozenset.__contains__") (by rw [fastTable_eq_tree]; kernel_rfl) rfl (by decide +kernel) (by rw [fastTable_eq_tree]; kernel_rfl)) (by decide +kernel)
theorem inter : SB "set.intersection" "intersection" Builtin.«frozenset.intersection» := .of (by decide +kernel) (by decide +kernel) (by decide +kernel) (.inr (by decide +kernel)) (entryFor_alias (id' := "frozenset.intersection") (by rw [fastTable_eq_tree]; kernel_rfl) rfl (by decide +kernel) (by rw [fastTable_eq_tree]; kernel_rfl)) (by decide +kernel)
theorem diff : SB "set.difference" "difference" Builtin.«frozenset.difference» := .of (by decide +kernel) (by decide +kernel) (by decide +kernel) (.inr (by decide +kernel)) (entryFor_alias (id' := "frozenset.difference") (by rw [fastTable_eq_tree]; kernel_rfl) rfl (by decide +kernel) (by rw [fastTable_eq_tree]; kernel_rfl)) (by decide +kernel)
theorem len : SB "set.__len__" "__len__" Builtin.«frozenset.__len__» := .of (by decide +kernel) (by decide +kernel) (by decide +kernel) (.inl (by decide +kernel)) (entryFor_alias (id' := "frozenset.__len__") (by rw [fastTable_eq_tree]; kernel_rfl) rfl (by decide +kernel) (by rw [fastTable_eq_tree]; kernel_rfl)) (by decide +kernel)
theorem ne : SB "set.__ne__" "__ne__" Builtin.«frozenset.__ne__» := .of (by decide +kernel) (by decide +kernel) (by decide +kernel) (.inl (by decide +kernel)) (entryFor_alias (id' := "frozenset.__ne__") (by rw [fastTable_eq_tree]; kernel_rfl) rfl (by decide +kernel) (by rw [fastTable_eq_tree]; kernel_rfl)) (by decide +kernel)
theorem ga : SB "set.__getattribute__" "__getattribute__" Builtin.«object.__getattribute__» := .of (by decide +kernel) (by decide +kernel) (by decide +kernel) (.inl (by decide +kernel)) (entryFor_alias (id' := "object.__getattribute__") (by rw [fastTable_eq_tree]; kernel_rfl) rfl (by decide +kernel) (by rw [fastTable_eq_tree]; kernel_rfl)) (by decide +kernel)
end SF

section
variable {prog : Program} {w : World} {A : Around} {E : Value → Shared → Prop} {s : Shared} {a : Addr} {o : Obj}

theorem SB.check {i n : String} {b : Builtin} (B : SB i n b) {rest : List Value} {Q : Unit → Shared → Prop} (ho : s.heap.get? a = some o) (hc : SetCls (model prog w) s.heap o.cls) (ha : argsOk i ⟨.ref a :: rest, []⟩) (h : Q () s) :
    wpAny (model prog w) A (checkBuiltinCall i ⟨.ref a :: rest, []⟩) Q E s := by
  have hi : Looks (model prog w) s.heap (isInstance (.ref a) (.type "set")) true := (looks_typeOf ho).andThen hc
  rcases B.kind with hk | hk <;>
  · simp only [checkBuiltinCall, hk, B.split]
    refine wpAny_bind (hi.here ?_)
    simp only [Bool.not_true, Bool.false_eq_true, if_false]
    cases hsig : Manifest.signature? i with
    | none => exact wpAny_pure h
    | some sig =>
      simp only [argsOk, hsig] at ha
      have h2 : Bind.checkArgs i sig ⟨.ref a :: rest, []⟩ = pure () := ha
      show wpAny _ A (Bind.checkArgs i sig ⟨.ref a :: rest, []⟩) Q E s
      rw [h2]; exact wpAny_pure h

theorem SB.call {i n : String} {b : Builtin} (B : SB i n b) {rest : List Value} {Q : Value → Shared → Prop} (ho : s.heap.get? a = some o) (hc : SetCls (model prog w) s.heap o.cls) (ha : argsOk i ⟨.ref a :: rest, []⟩)
    (h : wpAny (model prog w) A.in1 (b ⟨.ref a :: rest, []⟩) (fun fin s' => ∃ v, fin = .done (.ret v) ∧ Q v s') E s) : wpAny (model prog w) A (call (.builtin i) (.ref a :: rest)) Q E s := by
  refine wpAny_call (codeAny_call_builtin B.plain B.entry (B.check ho hc ha (wpAny_mono h (fun fin s' h' => ?_) fun _ _ h' => h')))
  obtain ⟨v, rfl, hv⟩ := h'; exact hv
end

section
variable {w : World} {A : Around} {E : Value → Shared → Prop} {s : Shared} {a : Addr} {o : Obj} {od : Option Obj}

theorem setCls_K {h : Heap} (X : (hd.heap_39 w.params).In h) : SetCls (model PySem.Challenge.rw_ep5040_01.row.prog w) h (.ref 232) := looks_subIn X (by rfl)

theorem k_ga : findIn (hd.heap_39 w.params) (.ref 232) "__getattribute__" = some (some (.builtin "set.__getattribute__")) := rfl
theorem k_gattr : findIn (hd.heap_39 w.params) (.ref 232) "__getattr__" = some none := rfl

theorem getAttr_S {name : Str} {expr : Bool} {g at' : Value} {Q : Value → Shared → Prop} (X : (hd.heap_39 w.params).In s.heap) (I : InstAt s.heap a o 232 od) (hf : findObj (hd.heap_39 w.params) 232 od name = some (.bind g at'))
    (h : wpAny (model PySem.Challenge.rw_ep5040_01.row.prog w) A.in1 (call g [at', .ref a, .ref 232]) (fun v s' => handedIn v = true ∧ Q v s') (fun _ _ => False) { s with toks := s.toks + 1 }) :
    wpAny (model PySem.Challenge.rw_ep5040_01.row.prog w) A (getAttr (.ref a) name expr) Q E s := by
  obtain ⟨hh, g', d, t, os⟩ := s
  have L0 := I.type (M := (model PySem.Challenge.rw_ep5040_01.row.prog w))
  have L1 := looks_findIn (M := (model PySem.Challenge.rw_ep5040_01.row.prog w)) X k_ga
  have L2 := looks_findIn (M := (model PySem.Challenge.rw_ep5040_01.row.prog w)) X k_gattr
  have L3 := looks_find (M := (model PySem.Challenge.rw_ep5040_01.row.prog w)) X I hf
  have hcls := I.cls
  unfold getAttr getAttrBy
  refine wpAny_bind (wpAny_mkText (wpAny_holding (wpAny_bind (L0.at (wpAny_bind (L1.at ?_))))))
  dsimp only
  rw [if_neg (by decide)]
  unfold getAttrByItsOwn hookBefore
  rw [if_pos (by rfl)]
  refine wpAny_bind (L2.at (wpAny_bind (wpAny_attempt ?_)))
  refine wpAny_holding ?_
  unfold callGetattribute boundAndCalled
  rw [if_neg (by simp [onTheHeap])]
  rw [SF.ga.bind]
  refine wpAny_bind (wpAny_pure ?_)
  refine SF.ga.call I.at_ (by rw [hcls]; exact setCls_K X) (by unfold argsOk; kernel_rfl) ?_
  unfold Builtin.«object.__getattribute__» slotArgs
  refine wpAny_bind (wpAny_pure ?_)
  refine wpAny_bind (wpAny_pure ?_)
  refine wpAny_bind (L0.at (wpAny_bind (L3.at ?_)))
  show wpAny _ _ (holding [at'] (call g [at', .ref a, .ref 232]) >>= ret) _ _ _
  refine wpAny_bind (wpAny_holding (wpAny_mono h (fun v s' hv => ?_) fun _ _ z => z.elim))
  refine wpAny_pure ⟨v, rfl, ?_⟩
  dsimp only
  rw [handedOut_of hv.1]
  exact wpAny_pure hv.2
end
end Mine
end

section
open PySem PySem.W PyProof.Rows PySem.Builtin.Frozenset PySem.Calls Builtin Builtin.ObjectAttr Builtin.Getset_descriptor
set_option Elab.async false
set_option maxRecDepth 100000
set_option maxHeartbeats 4000000
namespace Mine

section
variable {w : World} {A : Around} {E : Value → Shared → Prop} {s : Shared} {a : Addr} {o : Obj} {od : Option Obj}

theorem canon_sga : (Manifest.canonical "set.__getattribute__" != "object.__getattribute__") = false := by decide +kernel

theorem getMethod_S {name : Str} {f : Addr} {pl : Sem Bool} {Q : Value × List Value → Shared → Prop} (X : (hd.heap_39 w.params).In s.heap) (I : InstAt s.heap a o 232 od)
    (hf : findIn (hd.heap_39 w.params) (.ref 232) name = some (some (.ref f))) (ht : typeIn (hd.heap_39 w.params) (.ref f) = some (.type "function")) (hs : shadowIn od name = some false) (h : Q (.ref f, [.ref a]) s) :
    wpAny (model PySem.Challenge.rw_ep5040_01.row.prog w) A (getMethod (.ref a) name pl) Q E s := by
  unfold getMethod specialOf
  refine wpAny_bind (wpAny_bind (I.type.here ((looks_findIn X k_ga).here ?_)))
  dsimp only
  rw [canon_sga, if_neg (by decide)]
  refine wpAny_bind (wpAny_bind (I.type.here ((looks_findIn X k_gattr).here ?_)))
  refine wpAny_bind (wpAny_bind (I.type.here ((looks_findIn X hf).here (wpAny_bind ((looks_typeIn X ht).here ?_)))))
  rw [if_neg (by decide +kernel)]
  refine wpAny_bind (wpAny_loadPart I.at_ ?_)
  have hd := I.dict
  cases e : o.dict with
  | none => exact wpAny_bind (wpAny_rule (wpAny_pure h))
  | some dx =>
    cases od with
    | none => rw [e] at hd; exact hd.elim
    | some o' =>
      rw [e] at hd
      obtain ⟨r, h1, h2⟩ := Option.map_eq_some_iff.mp hs
      refine wpAny_bind (wpAny_bind (wpAny_loadPart hd ?_))
      rw [nsLook_of h1]
      refine wpAny_pure ?_
      rw [h2]
      exact wpAny_bind (wpAny_rule (wpAny_pure h))

theorem k_slot : slotIn (hd.heap_39 w.params) 233 232 = some 0 := rfl
theorem k_find_list : findObj (hd.heap_39 w.params) 232 od "_list" = some (.bind (.builtin "member_descriptor.__get__") (.ref 233)) := by
  cases od <;> rfl

theorem get_list_S {l : Value} {expr : Bool} {Q : Value → Shared → Prop} (X : (hd.heap_39 w.params).In s.heap) (I : InstAt s.heap a o 232 od) (hl : o.slots = #[some l]) (hh : handedIn l = true) (h : Q l { s with toks := s.toks + 1 }) :
    wpAny (model PySem.Challenge.rw_ep5040_01.row.prog w) A (getAttr (.ref a) "_list" expr) Q E s := by
  refine getAttr_S X I k_find_list ?_
  refine wpAny_call (slot_get (s := { s with toks := s.toks + 1 }) X I k_slot (by rw [hl]; rfl) ?_)
  exact ⟨hh, h⟩

theorem slot_set_S {v : Value} {R : Result → Shared → Prop} (X : (hd.heap_39 w.params).In s.heap) (I : InstAt s.heap a o 232 od)
    (h : R (.ok (.ret .none)) { s with heap := s.heap.update a fun o => { o with slots := (o.slots ++ Array.replicate (0 + 1 - o.slots.size) none).setIfInBounds 0 (some v) } }) :
    codeAny (model PySem.Challenge.rw_ep5040_01.row.prog w) A (.call (.builtin "member_descriptor.__set__") ⟨[.ref 233, .ref a, v], []⟩) R s := by
  obtain ⟨n, tn, owner, behind, tb, d, sl, cd, ho, hc, hm, hb, e0⟩ := slot_of X k_slot
  obtain ⟨hh, g, dr, t, os⟩ := s
  have L0 := I.type (M := (model PySem.Challenge.rw_ep5040_01.row.prog w))
  have L1 := looks_mroIn (M := (model PySem.Challenge.rw_ep5040_01.row.prog w)) X hm
  have L2 : Looks (model PySem.Challenge.rw_ep5040_01.row.prog w) hh (Slots.slotNamesOf (.ref 232)) cd.slotNames := (looks_clsIn X hc).andThen .now
  have hx := I.at_
  dsimp only at ho hx L0 L1
  have f0 := looks_field (M := (model PySem.Challenge.rw_ep5040_01.row.prog w)) ho 0 (v := .str n tn) rfl
  have f1 := looks_field (M := (model PySem.Challenge.rw_ep5040_01.row.prog w)) ho 1 (v := owner) rfl
  have f3 := looks_field (M := (model PySem.Challenge.rw_ep5040_01.row.prog w)) ho 3 (v := .builtin "proto.slot#set") rfl
  have f4 := looks_field (M := (model PySem.Challenge.rw_ep5040_01.row.prog w)) ho 4 (v := .int behind tb) rfl
  refine codeAny_call_builtin KF.slot_mset.plain KF.entry_mset (KF.slot_mset.check _ _ _ _ _ _ _ _ ⟨_, ho, rfl⟩ (KF.args_mset _ _ _) ?_)
  unfold Builtin.«member_descriptor.__set__» descrSet descrStoreThrough descrCheckInstance descrNameAndClass isInstance
  have f5 : Looks (model PySem.Challenge.rw_ep5040_01.row.prog w) hh (descrItself (.ref 233)) [.ref 233] := ((Looks.ld (part := none) ho).andThen .now).andThen (Looks.of_pure (by kernel_rfl))
  repeat lk
  refine ⟨Code.quiet_builtin _ (by decide +kernel), codeAny_builtin KF.entry_slotset ?_⟩
  unfold Builtin.«proto.slot#set» Slots.target
  repeat lk
  rw [if_neg hb]
  refine wpAny_pure (wpAny_bind ?_)
  rw [← e0]
  unfold setSlotAt
  dsimp only
  rw [if_neg (by rw [sizeLine_eq]; omega)]
  exact wpAny_updatePart hx (wpAny_pure h)

theorem k_sattr : findIn (hd.heap_39 w.params) (.ref 232) "__setattr__" = some (some (.builtin "object.__setattr__")) := rfl
theorem k_cls : ∃ cd, clsIn (hd.heap_39 w.params) 232 = some cd ∧ cd.mro = [.ref 232, .type "set", .type "object"] := ⟨_, rfl, rfl⟩
theorem k_taker : takerIn (hd.heap_39 w.params) 232 "_list" = some (some (.ref 233)) := rfl
theorem refuse_S (self : Value) : refuseLoop self "__setattr__" [.ref 232, .type "set", .type "object"] = pure () := by
  rw [refuseLoop_ref]
  kernel_rfl

theorem set_list_S {v : Value} {Q : Unit → Shared → Prop} (X : (hd.heap_39 w.params).In s.heap) (I : InstAt s.heap a o 232 od)
    (h : Q () { s with heap := s.heap.update a fun o => { o with slots := (o.slots ++ Array.replicate (0 + 1 - o.slots.size) none).setIfInBounds 0 (some v) }, toks := s.toks + 1 }) :
    wpAny (model PySem.Challenge.rw_ep5040_01.row.prog w) A (setAttr (.ref a) "_list" v) Q E s := by
  refine set_plain X I k_sattr ?_
  have SF := PySem.F.store_object
  obtain ⟨cd, hc, hmro⟩ := k_cls (w := w)
  have sub : Looks (model PySem.Challenge.rw_ep5040_01.row.prog w) s.heap (isInstance (.ref a) (.type "object")) true := I.type.andThen (looks_mroIn X (by unfold mroIn; rw [hc, Option.bind_some, hmro]; rfl))
  refine codeAny_call_builtin SF.slot.plain SF.entry (@check_slot (model PySem.Challenge.rw_ep5040_01.row.prog w) _ _ { s with toks := s.toks + 1 } "object.__setattr__" "object" "__setattr__" (.ref a) [.str "_list" s.toks, v] [] _ SF.kind SF.split sub (SF.args (.ref a) (.str "_list" s.toks) v) ?_)
  obtain ⟨attr, ha, hr⟩ := Option.bind_eq_some_iff.mp (k_taker (w := w))
  have hm : Looks (model PySem.Challenge.rw_ep5040_01.row.prog w) s.heap (mroOf (.ref 232)) [.ref 232, .type "set", .type "object"] := by rw [← hmro]; exact (looks_clsIn X hc).andThen .now
  have L3 : Looks (model PySem.Challenge.rw_ep5040_01.row.prog w) s.heap (storeTaker? attr) (some (.ref 233)) := by
    cases attr with
    | none => cases hr
    | some a' =>
      obtain ⟨b, hb, e⟩ := Option.map_eq_some_iff.mp hr
      refine (looks_takesIn X hb).andThen ?_
      cases b
      · cases e
      · simp only [if_true] at e; rw [e]; exact .now
  rw [osa_eq, refuse_eq]
  have hx := I.at_
  refine wpAny_bind (wpAny_bind (Looks.here (s := { s with toks := s.toks + 1 }) I.type (wpAny_bind (Looks.here (s := { s with toks := s.toks + 1 }) hm ?_))))
  rw [refuse_S]
  refine wpAny_pure (wpAny_bind (Looks.here (s := { s with toks := s.toks + 1 }) I.type (wpAny_bind (Looks.here (s := { s with toks := s.toks + 1 }) (looks_findIn X ha) (wpAny_bind (Looks.here (s := { s with toks := s.toks + 1 }) L3 ?_))))))
  have hT : typeIn (hd.heap_39 w.params) (.ref 233) = some (.type "member_descriptor") := rfl
  refine wpAny_bind (wpAny_rule (wpAny_bind (wpAny_holding (wpAny_bind (wpAny_bind (Looks.here (s := { s with toks := s.toks + 1 }) (looks_typeIn X hT) (Looks.here (s := { s with toks := s.toks + 1 }) (Looks.of_pure KF.slot_mset.lookup) (wpAny_holding ?_))))))))
  rw [KF.slot_mset.bind]
  refine wpAny_bind (wpAny_pure (wpAny_bind (wpAny_call ?_)))
  refine slot_set_S (s := { s with toks := s.toks + 1 }) X I ?_
  exact wpAny_pure (wpAny_pure h)
end
end Mine
end

section
open PySem PySem.W PyProof.Rows PySem.Builtin.Frozenset PySem.Calls Builtin Builtin.ObjectAttr Builtin.Getset_descriptor
set_option Elab.async false
set_option maxRecDepth 100000
set_option maxHeartbeats 4000000
namespace Mine

namespace SN
theorem entry : entryFor table "set.__new__" = some Builtin.«set.__new__» := entryFor_of_tree (by kernel_rfl)
theorem plain : plainId "set.__new__" = true := by decide +kernel
theorem kind : builtinKind "set.__new__" = some .builtinFn := by decide +kernel
theorem split : splitId "set.__new__" = some ("set", "__new__") := by decide +kernel
theorem args1 (c : Value) : argsOk "set.__new__" ⟨[c], []⟩ := by unfold argsOk; kernel_rfl
theorem args2 (c x : Value) : argsOk "set.__new__" ⟨[c, x], []⟩ := by unfold argsOk; kernel_rfl
theorem lookup (self : Value) : bindSpecial (.builtin "set.__new__") self = pure (.builtin "set.__new__", []) := by kernel_rfl
end SN

abbrev dictObj : Obj := { cls := .type "dict", data := .dict #[] }

section
variable {w : World} {A : Around} {E : Value → Shared → Prop} {s : Shared}

theorem k_clsObj : ∃ oc cd, (hd.heap_39 w.params).lookup 232 = some oc ∧ oc.data = .cls cd ∧ cd.hasDel = false ∧ cd.abstract = false ∧ cd.mro = [.ref 232, .type "set", .type "object"] ∧ oc.slots.toList[4]? = some (some (.builtin "set.__new__")) := ⟨_, _, rfl, rfl, rfl, rfl, rfl, rfl⟩

structure MakesS (w : World) (h : Heap) : Prop where
  obj : ∃ oc cd, h.get? 232 = some oc ∧ oc.data = .cls cd ∧ cd.hasDel = false ∧ cd.mro = [.ref 232, .type "set", .type "object"]
  mro : Looks (model PySem.Challenge.rw_ep5040_01.row.prog w) h (mroOf (.ref 232)) [.ref 232, .type "set", .type "object"]
  made : Looks (model PySem.Challenge.rw_ep5040_01.row.prog w) h (Bind.madeBy (.ref 232)) (some "set.__new__")
  base : Looks (model PySem.Challenge.rw_ep5040_01.row.prog w) h (Bind.staticBase (.ref 232)) (.ref 232)
  self : Looks (model PySem.Challenge.rw_ep5040_01.row.prog w) h (isSubtype (.ref 232) (.ref 232)) true
  top : Looks (model PySem.Challenge.rw_ep5040_01.row.prog w) h (isSubtype (.ref 232) (.type "set")) true
  call : Looks (model PySem.Challenge.rw_ep5040_01.row.prog w) h (specialOf (.ref 232) "__call__") (some (.builtin "type.__call__"))
  typ : Looks (model PySem.Challenge.rw_ep5040_01.row.prog w) h (isInstance (.ref 232) (.type "type")) true
  isT : Looks (model PySem.Challenge.rw_ep5040_01.row.prog w) h (isType (.ref 232)) true

theorem makesS_of {h : Heap} (X : (hd.heap_39 w.params).In h) : MakesS w h := by
  obtain ⟨oc, cd, ho, hdt, hdel, habs, hmro, hsl⟩ := k_clsObj (w := w)
  have hc : clsIn (hd.heap_39 w.params) 232 = some cd := by unfold clsIn; rw [ho]; obtain ⟨_, _, _, _⟩ := oc; cases hdt; rfl
  have hm : Looks (model PySem.Challenge.rw_ep5040_01.row.prog w) h (mroOf (.ref 232)) [.ref 232, .type "set", .type "object"] := by rw [← hmro]; exact (looks_clsIn X hc).andThen .now
  have made : Looks (model PySem.Challenge.rw_ep5040_01.row.prog w) h (Bind.madeBy (.ref 232)) (some "set.__new__") := by
    intro A Q E s k q
    unfold Bind.madeBy
    refine wpAny_bind (hm A _ E s k ?_)
    rw [List.forIn_cons]
    refine wpAny_bind (wpAny_bind (wpAny_bind (wpAny_bind (wpAny_loadPart (k _ _ (X _ _ ho)) (wpAny_pure ?_)))))
    dsimp only
    rw [← Array.getElem?_toList, hsl]
    exact wpAny_pure (wpAny_pure (wpAny_pure q))
  refine ⟨⟨oc, cd, X _ _ ho, hdt, hdel, hmro⟩, hm, made, ?_, looks_mroIn X (by unfold mroIn; rw [hc, Option.bind_some, hmro]; rfl), looks_mroIn X (by unfold mroIn; rw [hc, Option.bind_some, hmro]; rfl), looks_specialIn X (by rfl), looks_instIn X (by rfl), ?_⟩
  · intro A Q E s k q
    unfold Bind.staticBase
    refine wpAny_bind (hm A _ E s k ?_)
    rw [List.forIn_cons]
    exact wpAny_bind (wpAny_bind (wpAny_bind (made A _ E s k (wpAny_pure (wpAny_pure (wpAny_pure q))))))
  · intro A Q E s k q
    unfold isType
    refine wpAny_bind (wpAny_loadPart (k _ _ (X _ _ ho)) ?_)
    rw [hdt]
    exact wpAny_pure q

theorem new_S {rest : List Value} {R : Result → Shared → Prop} (Y : MakesS w s.heap) (ha : argsOk "set.__new__" ⟨.ref 232 :: rest, []⟩)
    (h : ∀ o, FreshSet o → o.cls = .ref 232 → o.dict = some s.heap.objs.size → o.slots = #[] → o.isFreed = false → R (.ok (.ret (.ref (s.heap.objs.size + 1)))) { s with heap := (s.heap.push dictObj).push o }) :
    codeAny (model PySem.Challenge.rw_ep5040_01.row.prog w) A (.call (.builtin "set.__new__") ⟨.ref 232 :: rest, []⟩) R s := by
  obtain ⟨hh, g, d, t, os⟩ := s
  obtain ⟨⟨oc, cd, hC, hdt, hdel, hmro⟩, hm, made, base, self, top, call, typ, isT⟩ := Y
  refine codeAny_call_builtin SN.plain SN.entry ?_
  simp only [checkBuiltinCall, SN.kind, SN.split, beq_self_eq_true, if_true]
  refine wpAny_bind (isT.at ?_)
  simp only [Bool.not_true, Bool.false_eq_true, if_false]
  refine wpAny_bind (top.at ?_)
  simp only [Bool.not_true, Bool.false_eq_true, if_false]
  refine wpAny_bind (base.at ?_)
  refine wpAny_bind (made.at ?_)
  dsimp only
  rw [if_neg (by simp)]
  have fin : wpAny (model PySem.Challenge.rw_ep5040_01.row.prog w) A.in1 (Builtin.«set.__new__» ⟨.ref 232 :: rest, []⟩) (fun fin s' => match fin with | .done f => R (.ok f) s' | .again c' => c'.quiet = true ∧ codeAny (model PySem.Challenge.rw_ep5040_01.row.prog w) A c' R s') (fun e s' => R (.error e) s') ⟨hh, g, d, t, os⟩ := by
    unfold Builtin.«set.__new__» newClass
    refine wpAny_bind ?_
    refine wpAny_bind (isT.at ?_)
    simp only [Bool.not_true, Bool.false_eq_true, if_false]
    refine wpAny_bind (top.at ?_)
    simp only [Bool.not_true, Bool.false_eq_true, if_false]
    refine wpAny_pure ?_
    dsimp only
    refine wpAny_bind (wpAny_newSet_cls (s := ⟨hh, g, d, t, os⟩) hC hdt hdel fun o h1 h2 h3 h4 h5 => ?_)
    exact wpAny_pure (h o h1 h2 h3 h4 h5)
  cases hsig : Manifest.signature? "set.__new__" with
  | none => exact wpAny_pure fin
  | some sig =>
    simp only [argsOk, hsig] at ha
    have h2 : Bind.checkArgs "set.__new__" sig ⟨.ref 232 :: rest, []⟩ = pure () := ha
    show wpAny _ _ (Bind.checkArgs "set.__new__" sig ⟨.ref 232 :: rest, []⟩) _ _ _
    rw [h2]; exact wpAny_pure fin

theorem make_S {x : Value} {R : Result → Shared → Prop} (X : (hd.heap_39 w.params).In s.heap)
    (h : ∀ o, FreshSet o → o.cls = .ref 232 → o.dict = some s.heap.objs.size → o.slots = #[] → o.isFreed = false →
      codeAny (model PySem.Challenge.rw_ep5040_01.row.prog w) (A.under (.builtin "type.__call__" ⟨[.ref 232, x], []⟩)) (.call (.ref 44) ⟨[.ref (s.heap.objs.size + 1), x], []⟩) (InitBack (s.heap.objs.size + 1) R) { s with heap := (s.heap.push dictObj).push o }) :
    codeAny (model PySem.Challenge.rw_ep5040_01.row.prog w) A (.call (.ref 232) ⟨[x], []⟩) R s := by
  obtain ⟨hh, g, d, t, os⟩ := s
  have Y := makesS_of X
  have Y' := Y
  obtain ⟨⟨oc, cd, hC, hdt, hdel, hmro⟩, hm, made, base, self, top, call, typ, isT⟩ := Y
  have hi : Looks (model PySem.Challenge.rw_ep5040_01.row.prog w) hh (typeLookup (.ref 232) "__init__") (some (.ref 44)) := looks_findIn X (by rfl)
  have hfn : typeIn (hd.heap_39 w.params) (.ref 44) = some (.type "function") := rfl
  refine codeAny_of_tree ?_
  show wpAny _ _ (callAny (.ref 232) _) _ _ _
  refine nd_load hC ?_
  have via : wpAny (model PySem.Challenge.rw_ep5040_01.row.prog w) (A.under (.call (.ref 232) ⟨[x], []⟩)) (callAny.viaDunder (.ref 232) ⟨[x], []⟩) (fun fin s' => match fin with | .done f => R (.ok f) s' | .again c' => c'.quiet = true ∧ codeAny (model PySem.Challenge.rw_ep5040_01.row.prog w) A c' R s') (fun e s' => R (.error e) s') ⟨hh, g, d, t, os⟩ := by
    unfold callAny.viaDunder
    refine wpAny_bind (call.at ?_)
    dsimp only
    rw [tc_bind]
    refine wpAny_bind (wpAny_pure (wpAny_bind (wpAny_pure ?_)))
    refine wpAny_pure (a := Fin.again (.call (.builtin "type.__call__") ⟨[.ref 232, x], []⟩)) (And.intro rfl ?_)
    refine codeAny_call_builtin_at (Code.quiet_builtin _ (by decide +kernel)) entry_typeCall ?_
    with_reducible refine check_slot tc_kind tc_split typ (tc_args _ _ _) ?_
    unfold Builtin.«type.__call__»
    dsimp only
    rw [if_neg (by decide)]
    refine wpAny_bind (hm.at ?_)
    rw [if_neg (by decide)]
    refine wpAny_bind (made.at ?_)
    refine wpAny_bind (wpAny_pure ?_)
    refine wpAny_bind (wpAny_holding (wpAny_call ?_))
    refine new_S (s := ⟨hh, g, d, t, os⟩) Y' (SN.args2 _ _) fun o h1 h2 h3 h4 h5 => ?_
    have k : ∀ b ob, hh.get? b = some ob → ((hh.push dictObj).push o).get? b = some ob := fun b ob e => Heap.get?_push_of_some _ (Heap.get?_push_of_some _ e)
    have hx : ((hh.push dictObj).push o).get? (hh.objs.size + 1) = some o := by
      have := Heap.get?_push_size (hh.push dictObj) h5
      rwa [Heap.size_push] at this
    have t1 : Looks (model PySem.Challenge.rw_ep5040_01.row.prog w) ((hh.push dictObj).push o) (typeOf (.ref (hh.objs.size + 1))) (.ref 232) := h2 ▸ looks_typeOf hx
    have s1 := self.keeps k
    have i1 := hi.keeps k
    have b1 := (bind_fn (M := (model PySem.Challenge.rw_ep5040_01.row.prog w)) X (.ref (hh.objs.size + 1)) hfn).keeps k
    unfold isInstance callSpecial? specialOf
    dsimp only
    refine wpAny_bind (wpAny_bind (t1.at (s1.at ?_)))
    simp only [Bool.not_true, Bool.false_eq_true, if_false]
    refine wpAny_bind (wpAny_holding (wpAny_bind (wpAny_bind (t1.at (i1.at ?_)))))
    refine wpAny_holding (wpAny_bind (b1.at (wpAny_bind (wpAny_call (codeAny_mono (h o h1 h2 h3 h4 h5) fun r s' z => ?_)))))
    rcases r with e | (v | _ | _ | _) <;> first | exact z | exact z.elim | skip
    obtain ⟨rfl, z⟩ := z
    exact wpAny_pure (wpAny_pure z)
  obtain ⟨c1, c2, c3, c4⟩ := oc
  cases hdt
  exact via
end
end Mine
end

section
open PySem PySem.W PyProof.Rows PySem.Builtin.Frozenset PySem.Calls
set_option Elab.async false
set_option maxRecDepth 100000
set_option maxHeartbeats 4000000
namespace Mine

theorem keptBut_of_sameBut {a : Addr} {h h' : Heap} (x : Heap.SameBut a h h') : KeptBut [a] h h' := fun b ob hb e => by
  simp only [List.mem_cons, List.not_mem_nil, or_false] at hb
  rw [x.2 b hb]; exact e

section
variable {prog : Program} {w : World} {A : Around} {E : Value → Shared → Prop} {s : Shared} {a : Addr} {o : Obj} {xs ys : List Int} {k : Int} {tk : Tok}

theorem call_add {Q : Value → Shared → Prop} (ho : s.heap.get? a = some o) (hc : SetCls (model prog w) s.heap o.cls) (S : SetO prog w o xs) (hb : xs.length + 1 < scanBound)
    (h : ∀ h' tk' o', KeptBut [a] s.heap h' → h'.get? a = some o' → SameHead o o' → SetO prog w o' (addL xs k) → Q .none { s with heap := h', toks := tk' }) :
    wpAny (model prog w) A (call (.builtin "set.add") [.ref a, .int k tk]) Q E s := by
  refine SF.add.call ho hc (by unfold argsOk; kernel_rfl) ?_
  unfold Builtin.«set.add» oneOther
  simp only [List.isEmpty_nil, bind_assoc]
  unfold addrOf
  refine wpAny_bind (wpAny_pure ?_)
  try dsimp only
  refine wpAny_bind (wpAny_pure ?_)
  refine wpAny_bind (wpAny_setAdd_S ho S hb fun h' o' hs hg hh hS => ?_)
  exact wpAny_pure ⟨_, rfl, h h' _ o' (keptBut_of_sameBut hs) hg hh hS⟩

theorem call_remove {Q : Value → Shared → Prop} (ho : s.heap.get? a = some o) (hc : SetCls (model prog w) s.heap o.cls) (S : SetO prog w o xs) (hb : xs.length < scanBound) (hk : k ∈ xs)
    (h : ∀ h' tk' o', KeptBut [a] s.heap h' → h'.get? a = some o' → SameHead o o' → SetO prog w o' (xs.erase k) → Q .none { s with heap := h', toks := tk' }) :
    wpAny (model prog w) A (call (.builtin "set.remove") [.ref a, .int k tk]) Q E s := by
  refine SF.remove.call ho hc (by unfold argsOk; kernel_rfl) ?_
  unfold Builtin.«set.remove» oneOther
  simp only [List.isEmpty_nil, bind_assoc]
  unfold addrOf withSetAsKey
  refine wpAny_bind (wpAny_pure ?_)
  try dsimp only
  refine wpAny_bind (wpAny_pure ?_)
  refine wpAny_bind (wpAny_tryCatch (wpAny_setDiscard_S ho S hb fun h' o' hs hg hh hS => ?_))
  simp only [hk, decide_true, Bool.not_true, Bool.false_eq_true, ↓reduceIte]
  exact wpAny_pure ⟨_, rfl, h h' _ o' (keptBut_of_sameBut hs) hg hh hS⟩

theorem contains_S {Q : Bool → Shared → Prop} (ho : s.heap.get? a = some o) (hc : SetCls (model prog w) s.heap o.cls) (hl : Looks (model prog w) s.heap (typeLookup o.cls "__contains__") (some (.builtin "set.__contains__"))) (S : SetO prog w o xs) (hb : xs.length < scanBound)
    (h : Q (decide (k ∈ xs)) { s with toks := s.toks + 1 }) : wpAny (model prog w) A (contains (.ref a) (.int k tk)) Q E s := by
  have T := looks_typeOf (M := model prog w) ho
  have L : Looks (model prog w) s.heap (specialOf (.ref a) "__contains__") (some (.builtin "set.__contains__")) := T.andThen hl
  unfold contains
  refine wpAny_holding ?_
  refine wpAny_bind (L.here ?_)
  rw [if_neg (by rw [beq_builtin_none]; exact Bool.false_ne_true)]
  unfold callSpecialUnlessNone?
  refine wpAny_bind ?_
  refine wpAny_bind (L.here ?_)
  dsimp only
  rw [SF.contains.bind]
  refine wpAny_holding (wpAny_bind (wpAny_pure ?_))
  dsimp only
  rw [if_neg (by decide)]
  refine wpAny_bind (SF.contains.call ho hc (by unfold argsOk; kernel_rfl) ?_)
  unfold Builtin.«frozenset.__contains__» oneOther
  simp only [List.isEmpty_nil, bind_assoc]
  unfold addrOf withSetAsKey
  refine wpAny_bind (wpAny_pure ?_)
  try dsimp only
  refine wpAny_bind (wpAny_tryCatch (wpAny_setContains_S ho S hb ?_))
  exact wpAny_pure ⟨_, rfl, wpAny_pure (wpAny_truthy_bool h)⟩

theorem in_S {Q : Value → Shared → Prop} (ho : s.heap.get? a = some o) (hc : SetCls (model prog w) s.heap o.cls) (hl : Looks (model prog w) s.heap (typeLookup o.cls "__contains__") (some (.builtin "set.__contains__"))) (S : SetO prog w o xs) (hb : xs.length < scanBound)
    (h : Q (.bool (decide (k ∈ xs))) { s with toks := s.toks + 1 }) : wpAny (model prog w) A (compareOp .In (.int k tk) (.ref a)) Q E s :=
  wpAny_bind (contains_S ho hc hl S hb (wpAny_pure h))
theorem notin_S {Q : Value → Shared → Prop} (ho : s.heap.get? a = some o) (hc : SetCls (model prog w) s.heap o.cls) (hl : Looks (model prog w) s.heap (typeLookup o.cls "__contains__") (some (.builtin "set.__contains__"))) (S : SetO prog w o xs) (hb : xs.length < scanBound)
    (h : Q (.bool (!decide (k ∈ xs))) { s with toks := s.toks + 1 }) : wpAny (model prog w) A (compareOp .NotIn (.int k tk) (.ref a)) Q E s :=
  wpAny_bind (contains_S ho hc hl S hb (wpAny_pure h))

theorem call_update {l : Addr} {vs : List Value} {Q : Value → Shared → Prop} (hh : A.handled = none) (ho : s.heap.get? a = some o) (hc : SetCls (model prog w) s.heap o.cls) (S : SetO prog w o xs) (hl : s.heap.IsList l vs.toArray) (hI : IntsAre vs ys) (hb : xs.length + ys.length < scanBound)
    (h : ∀ h' tk' o', KeptBut [a] s.heap h' → h'.get? a = some o' → SameHead o o' → SetO prog w o' (updL xs ys) → Q .none { s with heap := h', toks := tk' }) :
    wpAny (model prog w) A (call (.builtin "set.update") [.ref a, .ref l]) Q E s := by
  refine SF.update.call ho hc (by unfold argsOk; kernel_rfl) ?_
  unfold Builtin.«set.update» manyOthers
  simp only [List.isEmpty_nil, Bool.not_true, Bool.false_eq_true, ↓reduceIte]
  unfold addrOf
  refine wpAny_bind (wpAny_bind (wpAny_pure (wpAny_pure ?_)))
  dsimp only
  rw [List.forIn_cons]
  refine wpAny_bind ?_
  refine wpAny_bind (wpAny_bind (wpAny_update_list (A := A.in1) hh ho S hl hI hb fun h' tk' o' hk hg hh' hS => ?_))
  refine wpAny_pure ?_
  dsimp only
  rw [List.forIn_nil]
  exact wpAny_pure (wpAny_pure ⟨_, rfl, h h' tk' o' hk hg hh' hS⟩)

theorem init_call {l : Addr} {vs : List Value} {Q : Value → Shared → Prop} (hh : A.handled = none) (X : (hd.heap_39 w.params).In s.heap) (ho : s.heap.get? a = some o) (hcl : o.cls = .ref 232) (hf : FreshSet o) (hl : s.heap.IsList l vs.toArray) (hI : IntsAre vs ys) (hb : ys.length < scanBound)
    (h : ∀ h' tk' o', KeptBut [a] s.heap h' → h'.get? a = some o' → SameHead o o' → SetO prog w o' (updL [] ys) → Q .none { s with heap := h', toks := tk' }) :
    wpAny (model prog w) A (call (.builtin "set.__init__") [.ref a, .ref l]) Q E s := by
  have hc : SetCls (model prog w) s.heap o.cls := by rw [hcl]; exact looks_subIn X (by rfl)
  have T := looks_typeOf (M := model prog w) ho
  rw [hcl] at T
  have hcd : ∃ cd, clsIn (hd.heap_39 w.params) 232 = some cd ∧ cd.name = Str.ofString "OrderedSet" := ⟨_, rfl, rfl⟩
  obtain ⟨cd, hcd, hnm⟩ := hcd
  have LC := looks_clsIn (M := model prog w) X hcd
  have hi : Looks (model prog w) s.heap (isInstance (.ref a) (.type "set")) true := (looks_typeOf ho).andThen hc
  have nm : (Str.ofString "OrderedSet").toString = "OrderedSet" := by decide +kernel
  have hs : Manifest.signature? "set.__init__" = some ⟨.positional, "set", "*", .self, [⟨"iterable", .posOnly, false⟩]⟩ := by kernel_rfl
  have s5 : ∀ nm, Bind.check ⟨.positional, "set", "*", .self, [⟨"iterable", .posOnly, false⟩]⟩ "set" nm 1 [] = pure () := fun nm => by kernel_rfl
  have hmid : wpAny (model prog w) A.in1 (checkBuiltinCall "set.__init__" ⟨[.ref a, .ref l], []⟩) (fun _ s' => s' = s) (fun _ _ => False) s := by
    obtain ⟨hh', g, d, t, os⟩ := s
    have hk : builtinKind "set.__init__" = some .slot := by decide +kernel
    simp only [checkBuiltinCall, hk, SF.init.split, hs]
    refine wpAny_bind (hi.at ?_)
    simp only [Bool.not_true, Bool.false_eq_true, if_false]
    unfold Bind.checkArgs Bind.printed Bind.receiverType typeNameWhole
    dsimp only
    repeat (first | (rw [s5]; exact wpAny_onRaise (wpAny_pure rfl)) | lk)
  refine wpAny_call (codeAny_call_builtin SF.init.plain SF.init.entry (wpAny_mono hmid (fun _ s' e => ?_) fun _ _ z => z.elim))
  rw [e]
  have hnc : Looks (model prog w) s.heap (typeNameOfCut 200 (.ref a)) "OrderedSet" := by
    intro A' Q' E' s' k q
    obtain ⟨hh', g, d, t, os⟩ := s'
    have T' := T.keeps k
    have LC' := LC.keeps k
    unfold typeNameOfCut shownTypeOf typeNameCut
    dsimp only at T' LC'
    refine wpAny_bind (wpAny_bind (T'.at ?_))
    rw [if_neg (by decide)]
    refine wpAny_pure (wpAny_bind (LC'.at ?_))
    rw [hnm]
    rw [if_pos (by decide +kernel)]
    rw [nm]
    exact wpAny_pure q
  unfold Builtin.«set.__init__» noKeywords
  simp only [List.isEmpty_nil, Bool.not_true, Bool.false_eq_true, ↓reduceIte]
  refine wpAny_bind (wpAny_pure ?_)
  try dsimp only
  refine wpAny_bind (hnc.here ?_)
  have hcc : checkCount "OrderedSet" 0 1 [Value.ref l].length = pure () := by kernel_rfl
  rw [hcc]
  refine wpAny_bind (wpAny_pure ?_)
  unfold addrOf setUsed
  refine wpAny_bind (wpAny_pure ?_)
  obtain ⟨led, hd0⟩ := hf.data
  refine wpAny_bind (wpAny_bind (wpAny_setState_of ho hd0 rfl (wpAny_pure ?_)))
  show wpAny _ _ (if (((0 : Nat) + 0) != 0) = true then _ else _) _ _ _
  rw [if_neg (by decide)]
  try dsimp only
  refine wpAny_bind ?_
  refine wpAny_update_list (A := A.in1) hh ho (xs := []) hf.set hl hI (by simpa using hb) fun h' tk' o' hk hg hh' hS => ?_
  exact wpAny_pure (h h' tk' o' hk hg hh' hS)
end
end Mine
end

section
open PySem PySem.W PyProof.Rows PySem.Builtin.Frozenset PySem.Calls
set_option Elab.async false
set_option maxRecDepth 100000
set_option maxHeartbeats 4000000
namespace Mine

section
variable {prog : Program} {w : World} {A : Around} {E : Value → Shared → Prop} {s : Shared} {a b : Addr} {o ob : Obj} {xs ys : List Int} {k : Int} {tk : Tok}

theorem ifBound_B {i : String} {name : Str} {args : List Value} {Q : Option Value → Shared → Prop} (L : Looks (model prog w) s.heap (specialOf (.ref a) name) (some (.builtin i)))
    (hb : ∀ self, bindSpecial (.builtin i) self = pure (.builtin i, [self])) (h : wpAny (model prog w) A (call (.builtin i) (.ref a :: args)) (fun v => Q (some v)) E s) :
    wpAny (model prog w) A (callSpecialIfBound? (.ref a) name args) Q E s := by
  simp only [callSpecialIfBound?, bindSpecialIfBound?]
  refine wpAny_holding (wpAny_bind (wpAny_bind (L.here ?_)))
  refine wpAny_bind (wpAny_askSetting (wpAny_ite ?_))
  have fin : wpAny (model prog w) A (call (.builtin i) ([.ref a] ++ args) >>= fun v => pure (some v)) Q E s := wpAny_bind (wpAny_mono h (fun v s' h' => wpAny_pure h') fun _ _ h' => h')
  split
  · refine wpAny_bind ?_
    rw [hb]
    exact wpAny_pure (wpAny_pure (by exact fin))
  · refine wpAny_tryCatch (wpAny_bind ?_)
    rw [hb]
    exact wpAny_pure (wpAny_pure (by exact fin))

theorem wpAny_walkUnseen_S {Q : List (Int × Value) → Shared → Prop} (ho : s.heap.get? a = some o) (S : SetO prog w o xs) (hob : s.heap.get? b = some ob) (Sb : SetO prog w ob ys)
    (h : ∀ es : Array (Int × Value), ElemsOf (IK prog w) es.toList → List.Perm (es.toList.map fun e => keyOf e.2) xs → Q es.toList s) : wpAny (model prog w) A (walkUnseen a b) Q E s := by
  unfold walkUnseen
  refine wpAny_bind (wpAny_setEntries_S ho S fun es ep t hd S' => ?_)
  refine wpAny_bind (wpAny_setEntries_S hob Sb fun es2 ep2 t2 hd2 S2 => ?_)
  refine wpAny_bind ?_
  refine wpAny_mono (wpAny_forIn_list _ (fun rest r s' => s' = s ∧ r = (none, ()) ∧ ∀ e ∈ rest, ∃ k t, e.2 = Value.int k t) (fun r s' => s' = s ∧ r = (none, ())) ?_ (fun r s' h => ⟨h.1, h.2.1⟩) (es.toList ++ es2.toList) (none, ()) ⟨rfl, rfl, fun e he => ?_⟩) (fun r s' hr => ?_) fun _ _ z => z
  · rintro ⟨hh, x⟩ rest r s' ⟨rfl, rfl, he⟩
    obtain ⟨k, t, hx⟩ := he _ (.head _)
    dsimp only at hx ⊢
    rw [hx]
    unfold quietEq
    refine wpAny_bind (wpAny_pure ?_)
    exact wpAny_pure ⟨rfl, rfl, fun e h => he e (.tail _ h)⟩
  · rcases List.mem_append.mp he with he | he
    · obtain ⟨t, ht, _⟩ := el_key S'.el he; exact ⟨_, t, ht⟩
    · obtain ⟨t, ht, _⟩ := el_key S2.el he; exact ⟨_, t, ht⟩
  · obtain ⟨rfl, rfl⟩ := hr
    exact wpAny_pure (h es S'.el S'.pm)

theorem wpAny_subsetOf_S {id : String} {Q : Bool → Shared → Prop} (ho : s.heap.get? a = some o) (S : SetO prog w o xs) (hob : s.heap.get? b = some ob) (Sb : SetO prog w ob ys) (hb : ys.length < scanBound) (hsub : ∀ k ∈ xs, k ∈ ys) (h : Q true s) :
    wpAny (model prog w) A (subsetOf id a b) Q E s := by
  have hle : xs.length ≤ ys.length := nodup_le S.nd hsub
  unfold subsetOf Builtin.Frozenset.sizeOf
  refine wpAny_bind (wpAny_bind (wpAny_setEntries_S ho S fun es ep t hd S' => wpAny_pure ?_))
  refine wpAny_bind (wpAny_bind (wpAny_setEntries_S hob Sb fun es2 ep2 t2 hd2 S2 => wpAny_pure ?_))
  rw [if_neg (by rw [S'.sz, S2.sz]; omega)]
  refine wpAny_bind (wpAny_setEpoch_S ho S fun es3 ep3 t3 hd3 S3 => ?_)
  refine wpAny_bind (wpAny_walkUnseen_S ho S hob Sb fun es4 hel hpm => ?_)
  refine wpAny_bind ?_
  refine wpAny_mono (wpAny_forIn_list _ (fun rest r s' => s' = s ∧ r = (none, ()) ∧ ∀ e ∈ rest, e ∈ es4.toList) (fun r s' => s' = s ∧ r = (none, ())) ?_ (fun r s' h => ⟨h.1, h.2.1⟩) es4.toList (none, ()) ⟨rfl, rfl, fun _ h => h⟩) (fun r s' hr => ?_) fun _ _ z => z
  · rintro ⟨hh, x⟩ rest r s' ⟨rfl, rfl, he⟩
    obtain ⟨t', ht, hhash⟩ := el_key hel (he _ (.head _))
    have hin : keyOf x ∈ ys := hsub _ (hpm.mem_iff.mp (List.mem_map.mpr ⟨_, he _ (.head _), rfl⟩))
    dsimp only at ht hhash ⊢
    rw [ht, hhash]
    refine wpAny_bind (wpAny_holding (wpAny_setFind_S hob Sb hb fun r _ hr => ?_))
    simp only [hin, decide_true] at hr
    rw [if_neg (by cases r with | none => cases hr | some _ => exact Bool.false_ne_true)]
    refine wpAny_bind ?_
    unfold unchanged
    refine wpAny_bind (wpAny_setEpoch_S ho S fun es5 ep5 t5 hd5 _ => ?_)
    rw [hd3] at hd5
    cases hd5
    simp only [bne_self_eq_false, Bool.false_eq_true, ↓reduceIte]
    refine wpAny_pure ?_
    exact wpAny_pure ⟨rfl, rfl, fun e h => he e (.tail _ h)⟩
  · obtain ⟨rfl, rfl⟩ := hr
    exact wpAny_pure h
end

section
variable {w : World} {A : Around} {E : Value → Shared → Prop} {s : Shared} {a b : Addr} {o ob : Obj} {xs ys : List Int}

theorem wpAny_ne_body {Q : Value → Shared → Prop} (ho : s.heap.get? a = some o) (hc : SetCls (model PySem.Challenge.rw_ep5040_01.row.prog w) s.heap o.cls) (hcl : o.cls = .ref 232) (X : (hd.heap_39 w.params).In s.heap) (S : SetO PySem.Challenge.rw_ep5040_01.row.prog w o xs) (hob : s.heap.get? b = some ob) (hcb : ob.cls = .type "set") (Sb : SetO PySem.Challenge.rw_ep5040_01.row.prog w ob ys) (hb : xs.length < scanBound) (hsame : xs.Perm ys) (h : Q (.bool false) s) :
    wpAny (model PySem.Challenge.rw_ep5040_01.row.prog w) A (Builtin.«frozenset.__ne__» ⟨[.ref a, .ref b], []⟩) (fun fin s' => ∃ v, fin = .done (.ret v) ∧ Q v s') E s := by
  have hcb' : SetCls (model PySem.Challenge.rw_ep5040_01.row.prog w) s.heap ob.cls := by rw [hcb]; exact setCls_set
  have len := hsame.length_eq
  unfold Builtin.«frozenset.__ne__»
  k_node
  unfold slot1 slotArgs
  simp only [List.isEmpty_nil, Bool.not_true, Bool.false_eq_true, ↓reduceIte, List.length_singleton, bne_self_eq_false]
  refine wpAny_bind ?_
  refine wpAny_bind (wpAny_pure ?_)
  refine wpAny_pure ?_
  try dsimp only
  refine wpAny_bind (wpAny_isAnySet_set hob hcb' ?_)
  simp only [Bool.not_true, Bool.false_eq_true, ↓reduceIte]
  unfold addrOf Builtin.Frozenset.sizeOf
  refine wpAny_bind (wpAny_pure (wpAny_bind (wpAny_pure ?_)))
  refine wpAny_bind (wpAny_bind (wpAny_setEntries_S ho S fun es ep t hd S' => wpAny_pure ?_))
  refine wpAny_bind (wpAny_bind (wpAny_setEntries_S hob Sb fun es2 ep2 t2 hd2 S2 => wpAny_pure ?_))
  try dsimp only
  have T := looks_typeOf (M := (model PySem.Challenge.rw_ep5040_01.row.prog w)) ho
  rw [hcl] at T
  have LF : Looks (model PySem.Challenge.rw_ep5040_01.row.prog w) s.heap (isInstance (.ref a) (.type "frozenset")) false := T.andThen (looks_subIn X (by rfl))
  refine wpAny_bind ?_
  rw [if_neg (by rw [S'.sz, S2.sz]; simp [len])]
  refine wpAny_bind (wpAny_bind (LF.here (wpAny_pure ?_)))
  try dsimp only
  rw [if_neg (by decide)]
  refine wpAny_subsetOf_S ho S hob Sb (by omega) (fun k hk => hsame.mem_iff.mp hk) ?_
  exact wpAny_pure ⟨_, rfl, h⟩

theorem k_ne : findIn (hd.heap_39 w.params) (.ref 232) "__ne__" = some (some (.builtin "set.__ne__")) := rfl

theorem ne_S {Q : Value → Shared → Prop} (hu : A.units < cLine) (ho : s.heap.get? a = some o) (hcl : o.cls = .ref 232) (X : (hd.heap_39 w.params).In s.heap) (S : SetO PySem.Challenge.rw_ep5040_01.row.prog w o xs) (hob : s.heap.get? b = some ob) (hcb : ob.cls = .type "set") (Sb : SetO PySem.Challenge.rw_ep5040_01.row.prog w ob ys) (hb : xs.length < scanBound) (hsame : xs.Perm ys) (h : Q (.bool false) s) :
    wpAny (model PySem.Challenge.rw_ep5040_01.row.prog w) A (compareOp .NotEq (.ref a) (.ref b)) Q E s := by
  have hc : SetCls (model PySem.Challenge.rw_ep5040_01.row.prog w) s.heap o.cls := by rw [hcl]; exact setCls_K X
  have T := looks_typeOf (M := (model PySem.Challenge.rw_ep5040_01.row.prog w)) ho
  rw [hcl] at T
  have Tb := looks_typeOf (M := (model PySem.Challenge.rw_ep5040_01.row.prog w)) hob
  rw [hcb] at Tb
  have L : Looks (model PySem.Challenge.rw_ep5040_01.row.prog w) s.heap (specialOf (.ref a) "__ne__") (some (.builtin "set.__ne__")) := T.andThen (looks_findIn X k_ne)
  show wpAny _ _ (richCompare .NotEq (.ref a) (.ref b)) _ _ _
  unfold richCompare
  simp only [oneThing_ref]
  refine wpAny_holding (wpAny_bind (wpAny_cRoomFor hu ?_))
  refine wpAny_bind (T.here (wpAny_bind (Tb.here ?_)))
  have hbc : subIn (hd.heap_39 w.params) (.type "set") (.ref 232) = some false := by rfl
  rw [if_pos (by decide)]
  refine wpAny_bind ((looks_subIn X hbc).here ?_)
  simp only [Bool.false_eq_true, if_false]
  refine wpAny_bind ?_
  unfold tryCompare
  refine wpAny_bind (ifBound_B L SF.ne.bind (SF.ne.call ho hc (by unfold argsOk; kernel_rfl) ?_))
  refine wpAny_ne_body (A := A.in1) ho hc hcl X S hob hcb Sb hb hsame ?_
  exact wpAny_pure (wpAny_pure h)
end
end Mine
end

section
open PySem PySem.W PyProof.Rows PySem.Builtin.Frozenset PySem.Calls
set_option Elab.async false
set_option maxRecDepth 100000
set_option maxHeartbeats 4000000
namespace Mine

section
variable {prog : Program} {w : World} {A : Around} {E : Value → Shared → Prop} {s : Shared} {a : Addr} {o : Obj} {xs ys : List Int} {k : Int} {tk : Tok}

theorem call_inter_update {l : Addr} {vs : List Value} {Q : Value → Shared → Prop} (hh : A.handled = none) (ho : s.heap.get? a = some o) (hc : SetCls (model prog w) s.heap o.cls) (S : SetO prog w o xs) (hl : s.heap.IsList l vs.toArray) (hI : IntsAre vs ys) (hb : xs.length + 1 < scanBound)
    (h : ∀ h' tk' o' zs, KeptBut [a] s.heap h' → h'.get? a = some o' → SameHead o o' → SetO prog w o' zs → (∀ k, k ∈ zs ↔ k ∈ xs ∧ k ∈ ys) → Q .none { s with heap := h', toks := tk' }) :
    wpAny (model prog w) A (call (.builtin "set.intersection_update") [.ref a, .ref l]) Q E s := by
  refine SF.inter_update.call ho hc (by unfold argsOk; kernel_rfl) ?_
  unfold Builtin.«set.intersection_update» manyOthers
  simp only [List.isEmpty_nil, Bool.not_true, Bool.false_eq_true, ↓reduceIte, List.isEmpty_cons]
  refine wpAny_bind (wpAny_bind (wpAny_pure (wpAny_pure ?_)))
  dsimp only
  refine wpAny_bind (wpAny_pure ?_)
  rw [List.forIn_cons]
  refine wpAny_bind (wpAny_bind ?_)
  refine wpAny_bind (wpAny_holding (wpAny_bind (wpAny_pure ?_)))
  refine wpAny_intersection_list (A := A.in1) hh ho hc S hl hI hb fun r h' tk' o' zs hk hr0 hr hcl hd hsl hS hz => ?_
  refine wpAny_pure ?_
  dsimp only
  rw [List.forIn_nil]
  refine wpAny_pure ?_
  have hra : r ≠ a := by rintro rfl; rw [hr0] at ho; cases ho
  have ho' := hk a o (by simp) ho
  refine wpAny_bind (wpAny_pure (wpAny_bind (wpAny_holding ?_)))
  have hzb : zs.length < scanBound := by have := nodup_le hS.nd (fun k hk => ((hz k).mp hk).1); omega
  refine wpAny_takeOver_S (s := { s with heap := h', toks := tk' }) ho' S hr hS hzb fun h'' o'' hsb hg hh2 hS2 => ?_
  exact wpAny_pure ⟨_, rfl, h h'' tk' o'' zs (fun b ob hb' e => by
    rw [hsb.2 b (by simpa using hb')]; exact hk b ob (by simp) e) hg hh2 hS2 hz⟩

theorem call_diff_update {l : Addr} {vs : List Value} {Q : Value → Shared → Prop} (hh : A.handled = none) (ho : s.heap.get? a = some o) (hc : SetCls (model prog w) s.heap o.cls) (S : SetO prog w o xs) (hl : s.heap.IsList l vs.toArray) (hI : IntsAre vs ys) (hs : Small xs) (hb : xs.length ≤ 16)
    (h : ∀ h' tk' o' zs, KeptBut [a] s.heap h' → h'.get? a = some o' → SameHead o o' → SetO prog w o' zs → (∀ k, k ∈ zs ↔ k ∈ xs ∧ k ∉ ys) → Q .none { s with heap := h', toks := tk' }) :
    wpAny (model prog w) A (call (.builtin "set.difference_update") [.ref a, .ref l]) Q E s := by
  refine SF.diff_update.call ho hc (by unfold argsOk; kernel_rfl) ?_
  unfold Builtin.«set.difference_update» manyOthers
  simp only [List.isEmpty_nil, Bool.not_true, Bool.false_eq_true, ↓reduceIte]
  refine wpAny_bind (wpAny_bind (wpAny_pure (wpAny_pure ?_)))
  dsimp only
  rw [List.forIn_cons]
  refine wpAny_bind (wpAny_bind (wpAny_bind ?_))
  refine wpAny_difference_list (A := A.in1) hh ho S hl hI hs hb fun h' tk' o' zs hk hg hh' hS hz => ?_
  refine wpAny_pure ?_
  dsimp only
  rw [List.forIn_nil]
  exact wpAny_pure (wpAny_pure ⟨_, rfl, h h' tk' o' zs hk hg hh' hS hz⟩)

theorem call_sym_update {l : Addr} {vs : List Value} {Q : Value → Shared → Prop} (hh : A.handled = none) (ho : s.heap.get? a = some o) (hc : SetCls (model prog w) s.heap o.cls) (S : SetO prog w o xs) (hl : s.heap.IsList l vs.toArray) (hI : IntsAre vs ys) (hb : xs.length + ys.length + 1 < scanBound)
    (h : ∀ h' tk' o' zs, KeptBut [a] s.heap h' → h'.get? a = some o' → SameHead o o' → SetO prog w o' zs → (∀ k, k ∈ zs ↔ (k ∈ xs ∧ k ∉ ys) ∨ (k ∉ xs ∧ k ∈ ys)) → Q .none { s with heap := h', toks := tk' }) :
    wpAny (model prog w) A (call (.builtin "set.symmetric_difference_update") [.ref a, .ref l]) Q E s := by
  refine SF.sym_update.call ho hc (by unfold argsOk; kernel_rfl) ?_
  unfold Builtin.«set.symmetric_difference_update» oneOther
  simp only [List.isEmpty_nil]
  refine wpAny_bind (wpAny_bind (wpAny_pure (wpAny_pure ?_)))
  dsimp only
  refine wpAny_bind ?_
  refine wpAny_symdiff_list (A := A.in1) hh ho hc S hl hI hb fun h' tk' o' zs hk hg hh' hS hz => ?_
  exact wpAny_pure ⟨_, rfl, h h' tk' o' zs hk hg hh' hS hz⟩

/-- the copies that a call with no other makes -/
theorem call_inter0 {Q : Value → Shared → Prop} (ho : s.heap.get? a = some o) (hc : SetCls (model prog w) s.heap o.cls) (S : SetO prog w o xs) (hs : Small xs) (hb : xs.length ≤ 16)
    (h : ∀ r h' o', KeptBut [] s.heap h' → s.heap.get? r = none → h'.get? r = some o' → o'.cls = .type "set" → o'.dict = none → o'.slots = #[] → SetO prog w o' xs → Q (.ref r) { s with heap := h' }) :
    wpAny (model prog w) A (call (.builtin "set.intersection") [.ref a]) Q E s := by
  refine SF.inter.call ho hc (by unfold argsOk; kernel_rfl) ?_
  unfold Builtin.«frozenset.intersection» manyOthers
  simp only [List.isEmpty_nil, Bool.not_true, Bool.false_eq_true, ↓reduceIte]
  refine wpAny_bind (wpAny_bind (wpAny_pure (wpAny_pure ?_)))
  dsimp only
  simp only [List.isEmpty_nil, ↓reduceIte]
  refine wpAny_bind (wpAny_rule ?_)
  refine wpAny_bind ?_
  refine wpAny_copyOf_S (A := A.in1) ho hc S hs hb fun r h' o' hk hr0 hr hcl hd hsl hS => ?_
  exact wpAny_pure ⟨_, rfl, h r h' o' hk hr0 hr hcl hd hsl hS⟩

theorem call_diff0 {Q : Value → Shared → Prop} (ho : s.heap.get? a = some o) (hc : SetCls (model prog w) s.heap o.cls) (S : SetO prog w o xs) (hs : Small xs) (hb : xs.length ≤ 16)
    (h : ∀ r h' o', KeptBut [] s.heap h' → s.heap.get? r = none → h'.get? r = some o' → o'.cls = .type "set" → o'.dict = none → o'.slots = #[] → SetO prog w o' xs → Q (.ref r) { s with heap := h' }) :
    wpAny (model prog w) A (call (.builtin "set.difference") [.ref a]) Q E s := by
  refine SF.diff.call ho hc (by unfold argsOk; kernel_rfl) ?_
  unfold Builtin.«frozenset.difference» manyOthers
  simp only [List.isEmpty_nil, Bool.not_true, Bool.false_eq_true, ↓reduceIte]
  refine wpAny_bind (wpAny_bind (wpAny_pure (wpAny_pure ?_)))
  dsimp only
  refine wpAny_bind (wpAny_rule ?_)
  refine wpAny_bind ?_
  refine wpAny_copyOf_S (A := A.in1) ho hc S hs hb fun r h' o' hk hr0 hr hcl hd hsl hS => ?_
  exact wpAny_pure ⟨_, rfl, h r h' o' hk hr0 hr hcl hd hsl hS⟩
end
end Mine
end

section
open PySem PySem.W PyProof.Rows PySem.Builtin.Frozenset PySem.Calls
set_option Elab.async false
set_option maxRecDepth 100000
set_option maxHeartbeats 4000000
namespace Mine

/-- an ordered set: its own dict at dx, its row at l, its items xs -/
structure OSet (w : World) (o : Obj) (dx l : Addr) (xs : List Int) : Prop where
  cls : o.cls = .ref 232
  dict : o.dict = some dx
  slots : o.slots = #[some (.ref l)]
  set : SetO PySem.Challenge.rw_ep5040_01.row.prog w o xs

theorem SetO.notCls {prog : Program} {w : World} {o : Obj} {xs : List Int} (S : SetO prog w o xs) : notCls o = true := by
  obtain ⟨es, ep, t, hd, _⟩ := S
  unfold W.notCls; rw [hd]
theorem SetO.notFreed {prog : Program} {w : World} {o : Obj} {xs : List Int} (S : SetO prog w o xs) : o.isFreed = false := by
  obtain ⟨es, ep, t, hd, _⟩ := S
  obtain ⟨c, d, dt, sl⟩ := o
  cases hd; rfl

theorem OSet.head {w : World} {o o' : Obj} {dx l : Addr} {xs ys : List Int} (O : OSet w o dx l xs) (h : SameHead o o') (S : SetO PySem.Challenge.rw_ep5040_01.row.prog w o' ys) : OSet w o' dx l ys :=
  ⟨h.cls.trans O.cls, h.dict.trans O.dict, h.slots.trans O.slots, S⟩

section
variable {h₀ h h' : Heap} {L : Addr} {m : Str → Option Value} {news : List (Addr × Obj)}

theorem fr_kept {W : List Addr} (F : Fr h₀ L h m) (k : KeptBut W h h') (hL : L ∉ W) (hW : ∀ b ∈ W, h₀.get? b = none) : Fr h₀ L h' m := by
  obtain ⟨oL, es, ep, e, r⟩ := F.ns
  exact ⟨⟨oL, es, ep, k _ _ hL e, r⟩, fun b o q => k b o (fun hb => by rw [hW b hb] at q; cases q) (F.keep b o q), F.above⟩

theorem news_kept0 (N : News h₀ L h news) (k : KeptBut [] h h') : News h₀ L h' news := fun p hp => ⟨k _ _ (by simp) (N p hp).1, (N p hp).2⟩
theorem fr_kept0 (F : Fr h₀ L h m) (k : KeptBut [] h h') : Fr h₀ L h' m := fr_kept F k (by simp) (fun b hb => by simp at hb)

theorem upd_kept {a : Addr} {o o' : Obj} {gg : Obj → List (Addr × Obj)} (F : Fr h₀ L h m) (N : News h₀ L h news) (U : UpdF a o news gg) (k : KeptBut [a] h h') (e : h'.get? a = some o') : Fr h₀ L h' m ∧ News h₀ L h' (gg o') := by
  obtain ⟨pre, post, rfl, hg, h1, h2⟩ := U.split
  have D := N (a, o) (by simp)
  refine ⟨fr_kept F k (by simp; exact fun q => D.2.1 q.symm) (fun b hb => by simp at hb; rw [hb]; exact D.2.2), ?_⟩
  rw [hg o']
  intro p hp
  rcases List.mem_append.mp hp with q | q
  · have P := N p (List.mem_append_left _ q); exact ⟨k _ _ (by simpa using h1 p q) P.1, P.2⟩
  · rcases List.mem_cons.mp q with rfl | q
    · exact ⟨e, D.2⟩
    · have P := N p (List.mem_append_right _ (.tail _ q)); exact ⟨k _ _ (by simpa using h2 p q) P.1, P.2⟩
theorem updF_mem {a : Addr} {o : Obj} {gg : Obj → List (Addr × Obj)} (U : UpdF a o news gg) : (a, o) ∈ news := by
  obtain ⟨pre, post, rfl, hg, h1, h2⟩ := U.split
  simp
end

section
variable {w : World} {A : Around} {E : Value → Shared → Prop} {s : Shared} {h₀ : Heap} {L a dx l : Addr} {m : Str → Option Value} {news : List (Addr × Obj)} {gg : Obj → List (Addr × Obj)} {o od : Obj} {xs ys : List Int} {k : Int} {tk : Tok}

theorem OSet.inst {h : Heap} (O : OSet w o dx l xs) (N : News h₀ L h news) (h1 : (a, o) ∈ news) (h2 : (dx, dictObj) ∈ news) : InstAt h a o 232 (some dictObj) :=
  ⟨(N _ h1).1, O.cls, O.set.notCls, by rw [O.dict]; exact (N _ h2).1⟩

theorem OSet.setCls {h : Heap} (O : OSet w o dx l xs) (X : (hd.heap_39 w.params).In h) : SetCls (model PySem.Challenge.rw_ep5040_01.row.prog w) h o.cls := by rw [O.cls]; exact setCls_K X
theorem OSet.has {h : Heap} (O : OSet w o dx l xs) (X : (hd.heap_39 w.params).In h) : Looks (model PySem.Challenge.rw_ep5040_01.row.prog w) h (typeLookup o.cls "__contains__") (some (.builtin "set.__contains__")) := by rw [O.cls]; exact looks_findIn X (by rfl)

theorem in_N {Q : Value → Shared → Prop} (F : Fr h₀ L s.heap m) (X₀ : (hd.heap_39 w.params).In h₀) (N : News h₀ L s.heap news) (h1 : (a, o) ∈ news) (O : OSet w o dx l xs) (hb : xs.length < scanBound)
    (h : Q (.bool (decide (k ∈ xs))) { s with toks := s.toks + 1 }) : wpAny (model PySem.Challenge.rw_ep5040_01.row.prog w) A (compareOp .In (.int k tk) (.ref a)) Q E s :=
  have X := X₀.keeps F.keep
  in_S (N _ h1).1 (O.setCls X) (O.has X) O.set hb h
theorem notin_N {Q : Value → Shared → Prop} (F : Fr h₀ L s.heap m) (X₀ : (hd.heap_39 w.params).In h₀) (N : News h₀ L s.heap news) (h1 : (a, o) ∈ news) (O : OSet w o dx l xs) (hb : xs.length < scanBound)
    (h : Q (.bool (!decide (k ∈ xs))) { s with toks := s.toks + 1 }) : wpAny (model PySem.Challenge.rw_ep5040_01.row.prog w) A (compareOp .NotIn (.int k tk) (.ref a)) Q E s :=
  have X := X₀.keeps F.keep
  notin_S (N _ h1).1 (O.setCls X) (O.has X) O.set hb h

theorem list_N {expr : Bool} {Q : Value → Shared → Prop} (F : Fr h₀ L s.heap m) (X₀ : (hd.heap_39 w.params).In h₀) (N : News h₀ L s.heap news) (h1 : (a, o) ∈ news) (O : OSet w o dx l xs) (h2 : (dx, dictObj) ∈ news)
    (h : Q (.ref l) { s with toks := s.toks + 1 }) : wpAny (model PySem.Challenge.rw_ep5040_01.row.prog w) A (getAttr (.ref a) "_list" expr) Q E s :=
  get_list_S (X₀.keeps F.keep) (O.inst N h1 h2) O.slots rfl h

theorem meth_N {name : Str} {f : Addr} {pl : Sem Bool} {Q : Value × List Value → Shared → Prop} (F : Fr h₀ L s.heap m) (X₀ : (hd.heap_39 w.params).In h₀) (N : News h₀ L s.heap news) (h1 : (a, o) ∈ news) (O : OSet w o dx l xs) (h2 : (dx, dictObj) ∈ news)
    (hf : findIn (hd.heap_39 w.params) (.ref 232) name = some (some (.ref f))) (ht : typeIn (hd.heap_39 w.params) (.ref f) = some (.type "function")) (h : Q (.ref f, [.ref a]) s) :
    wpAny (model PySem.Challenge.rw_ep5040_01.row.prog w) A (getMethod (.ref a) name pl) Q E s :=
  getMethod_S (X₀.keeps F.keep) (O.inst N h1 h2) hf ht rfl h

theorem add_N {Q : Value → Shared → Prop} (F : Fr h₀ L s.heap m) (X₀ : (hd.heap_39 w.params).In h₀) (N : News h₀ L s.heap news) (U : UpdF a o news gg) (O : OSet w o dx l xs) (hb : xs.length + 1 < scanBound)
    (h : ∀ h' tk' o', Fr h₀ L h' m → News h₀ L h' (gg o') → OSet w o' dx l (addL xs k) → Q .none { s with heap := h', toks := tk' }) : wpAny (model PySem.Challenge.rw_ep5040_01.row.prog w) A (call (.builtin "set.add") [.ref a, .int k tk]) Q E s :=
  call_add (N _ (updF_mem U)).1 (O.setCls (X₀.keeps F.keep)) O.set hb fun h' tk' o' hk hg hh hS => let ⟨F', N'⟩ := upd_kept F N U hk hg; h h' tk' o' F' N' (O.head hh hS)

theorem remove_N {Q : Value → Shared → Prop} (F : Fr h₀ L s.heap m) (X₀ : (hd.heap_39 w.params).In h₀) (N : News h₀ L s.heap news) (U : UpdF a o news gg) (O : OSet w o dx l xs) (hb : xs.length < scanBound) (hk : k ∈ xs)
    (h : ∀ h' tk' o', Fr h₀ L h' m → News h₀ L h' (gg o') → OSet w o' dx l (xs.erase k) → Q .none { s with heap := h', toks := tk' }) : wpAny (model PySem.Challenge.rw_ep5040_01.row.prog w) A (call (.builtin "set.remove") [.ref a, .int k tk]) Q E s :=
  call_remove (N _ (updF_mem U)).1 (O.setCls (X₀.keeps F.keep)) O.set hb hk fun h' tk' o' hk hg hh hS => let ⟨F', N'⟩ := upd_kept F N U hk hg; h h' tk' o' F' N' (O.head hh hS)
end
end Mine
end

section
open PySem PySem.W PyProof.Rows PySem.Builtin.Frozenset PySem.Calls
set_option Elab.async false
set_option maxRecDepth 100000
set_option maxHeartbeats 4000000
namespace Mine
section
variable {w : World} {A : Around} {E : Value → Shared → Prop} {s : Shared} {h₀ : Heap} {L : Addr} {m : Str → Option Value}

theorem typeOf_setT : typeOf (.type "set") = pure (.type "type") := by kernel_rfl
theorem opaque_setT : opaqueClassAbove (.type "set") = pure none := by kernel_rfl
theorem special_setT : specialOf (.type "set") "__getattribute__" = pure (some (.builtin "type.__getattribute__")) := by
  unfold specialOf
  rw [typeOf_setT]
  show typeLookup (.type "type") "__getattribute__" = _
  rw [typeLookup_type, builtinLookup_eq_fast]; kernel_rfl

theorem getAttr_setT {name : Str} {expr : Bool} {v : Value} {Q : Value → Shared → Prop} (X : (hd.heap_39 w.params).In s.heap) (e : findCls (hd.heap_39 w.params) (.type "set") (.type "type") name = some (.val v)) (hh : handedIn v = true) (h : Q v { s with toks := s.toks + 1 }) :
    wpAny (model PySem.Challenge.rw_ep5040_01.row.prog w) A (getAttr (.type "set") name expr) Q E s := by
  refine cls_open (mc := .type "type") (hook := none) X (Looks.of_pure opaque_setT) (Looks.of_pure typeOf_setT) (by rfl) ?_ (by rfl) e ?_
  · exact Looks.of_pure (by unfold hookBefore; rw [if_neg (by simp [onTheHeap])])
  · refine wpAny_pure ?_
    dsimp only
    rw [handedOut_of hh]
    exact wpAny_pure h

theorem getMethod_setT {name : Str} {pl : Sem Bool} {v : Value} {Q : Value × List Value → Shared → Prop} (F : Fr h₀ L s.heap m) (X₀ : (hd.heap_39 w.params).In h₀) (e : findCls (hd.heap_39 w.params) (.type "set") (.type "type") name = some (.val v)) (hh : handedIn v = true) (h : Q (v, []) { s with toks := s.toks + 1 }) :
    wpAny (model PySem.Challenge.rw_ep5040_01.row.prog w) A (getMethod (.type "set") name pl) Q E s := by
  unfold getMethod
  rw [special_setT]
  refine wpAny_bind (wpAny_pure ?_)
  dsimp only
  rw [if_pos canon_tga]
  exact wpAny_bind (getAttr_setT (X₀.keeps F.keep) e hh (wpAny_pure h))

theorem k_set_add : findCls (hd.heap_39 w.params) (.type "set") (.type "type") "add" = some (.val (.builtin "set.add")) := rfl
theorem k_set_remove : findCls (hd.heap_39 w.params) (.type "set") (.type "type") "remove" = some (.val (.builtin "set.remove")) := rfl
theorem k_set_update : findCls (hd.heap_39 w.params) (.type "set") (.type "type") "update" = some (.val (.builtin "set.update")) := rfl
theorem k_set_init : findCls (hd.heap_39 w.params) (.type "set") (.type "type") "__init__" = some (.val (.builtin "set.__init__")) := rfl
theorem k_set_inter : findCls (hd.heap_39 w.params) (.type "set") (.type "type") "intersection" = some (.val (.builtin "set.intersection")) := rfl
theorem k_set_diff : findCls (hd.heap_39 w.params) (.type "set") (.type "type") "difference" = some (.val (.builtin "set.difference")) := rfl
theorem k_set_interu : findCls (hd.heap_39 w.params) (.type "set") (.type "type") "intersection_update" = some (.val (.builtin "set.intersection_update")) := rfl
theorem k_set_diffu : findCls (hd.heap_39 w.params) (.type "set") (.type "type") "difference_update" = some (.val (.builtin "set.difference_update")) := rfl
theorem k_set_symu : findCls (hd.heap_39 w.params) (.type "set") (.type "type") "symmetric_difference_update" = some (.val (.builtin "set.symmetric_difference_update")) := rfl
end
end Mine
end

section
open PySem PySem.W PyProof.Rows PySem.Builtin.Frozenset PySem.Calls
set_option Elab.async false
set_option maxRecDepth 100000
set_option maxHeartbeats 4000000
namespace Mine

/-- an ordered set lies at a, its dict at dx, its row at l; all three made behind hb -/
structure OSAt (w : World) (hb h : Heap) (a dx l : Addr) (xs : List Int) : Prop where
  at_ : ∃ o vs n, h.get? a = some o ∧ h.get? l = some (PySem.W.listOf vs.toArray n) ∧ OSet w o dx l xs ∧ IntsAre vs xs
  dict : h.get? dx = some dictObj
  ba : hb.get? a = none
  bd : hb.get? dx = none
  bl : hb.get? l = none

theorem OSAt.mk' {w : World} {hb h : Heap} {a dx l : Addr} {xs : List Int} {o : Obj} {vs : List Value} {n : Nat} (ha : h.get? a = some o) (hd : h.get? dx = some dictObj) (hl : h.get? l = some (PySem.W.listOf vs.toArray n)) (O : OSet w o dx l xs) (I : IntsAre vs xs)
    (ba : hb.get? a = none) (bd : hb.get? dx = none) (bl : hb.get? l = none) : OSAt w hb h a dx l xs := ⟨⟨o, vs, n, ha, hl, O, I⟩, hd, ba, bd, bl⟩

theorem OSAt.nd {w : World} {hb h : Heap} {a dx l : Addr} {xs : List Int} (O : OSAt w hb h a dx l xs) : xs.Nodup := let ⟨_, _, _, _, _, O, _⟩ := O.at_; O.set.nd

theorem OSAt.ne {w : World} {hb h : Heap} {a dx l : Addr} {xs : List Int} (O : OSAt w hb h a dx l xs) : (@Ne Nat a dx) ∧ (@Ne Nat a l) ∧ (@Ne Nat dx l) := by
  obtain ⟨⟨o, vs, n, ha, hl, O1, I⟩, hdx, _, _, _⟩ := O
  obtain ⟨es, ep, t, hdt, _⟩ := O1.set
  refine ⟨?_, ?_, ?_⟩
  · rintro rfl; rw [ha] at hdx; cases hdx; cases hdt
  · rintro rfl; rw [ha] at hl; cases hl; cases hdt
  · rintro rfl; rw [hdx] at hl; have := congrArg Obj.cls (Option.some.inj hl); exact absurd (Value.type.inj this) (by decide)

/-- what holds where a method is called -/
structure Ct (w : World) (s₀ : Shared) (mg mb : Str → Option Value) (hb : Heap) (A : Around) (s : Shared) (d : Nat) : Prop where
  C : Cx w s₀ mg mb hb
  k : hb.StaysIn s.heap
  depth : A.depth < d
  units : A.units < d * 8
  hand : A.handled = none

theorem fin3 {h g h' : Heap} {L' a dx l : Addr} {m : Str → Option Value} {W : List Addr} (hg : ∀ b o, h.get? b = some o → b ∉ W → g.get? b = some o) (F : Fr g L' h' m) (hd : h.get? dx = some dictObj) (hd' : h'.get? dx = some dictObj)
    (hW : ∀ b ∈ W, b = a ∨ b = dx ∨ b = l) : KeptBut [a, l] h h' := by
  intro b ob hb' e
  simp only [List.mem_cons, List.not_mem_nil, or_false, not_or] at hb'
  by_cases e1 : b = dx
  · subst e1; rw [hd] at e; cases e; exact hd'
  · refine F.keep b ob (hg b ob e fun hw => ?_)
    rcases hW b hw with h1 | h1 | h1
    · exact hb'.1 h1
    · exact e1 h1
    · exact hb'.2 h1
end Mine
end

section
open PySem PySem.W PyProof.Rows PySem.Builtin.Frozenset PySem.Calls
set_option Elab.async false
set_option maxRecDepth 100000
set_option maxHeartbeats 4000000
namespace Mine

def insL (l : List Int) (p : Int) (v : Int) : List Int :=
  l.take (if p < 0 then (p + (l.length : Int)).toNat else min p.toNat l.length) ++ v :: l.drop (if p < 0 then (p + (l.length : Int)).toNat else min p.toNat l.length)

theorem ints_ins {vs : List Value} {xs : List Int} (I : IntsAre vs xs) (p v : Int) (t : Tok) : IntsAre (kl_ins vs p (.int v t)) (insL xs p v) := by
  unfold kl_ins insL
  rw [I.length]
  exact IntsAre.append (I.take _) (.cons v t (I.drop _))

theorem insL_perm (l : List Int) (p v : Int) : (insL l p v).Perm (l ++ [v]) := by
  unfold insL
  generalize (if p < 0 then (p + (l.length : Int)).toNat else min p.toNat l.length) = k
  refine List.perm_middle.trans ?_
  rw [List.take_append_drop]
  exact (List.perm_append_singleton v l).symm

theorem ints_kf {vs : List Value} {xs : List Int} (I : IntsAre vs xs) : kf_ints vs = true := by
  induction I with
  | nil => rfl
  | cons n t r ih => exact ih

theorem ints_at {vs : List Value} {xs : List Int} {v : Int} (I : IntsAre vs xs) : v ∈ xs → ∃ j q, kf_at v vs = some j ∧ ki_delL vs j = some q ∧ IntsAre q (xs.erase v) := by
  induction I with
  | nil => intro h; simp at h
  | @cons n t vs' ns I ih =>
    intro h
    by_cases e : n = v
    · subst e
      refine ⟨0, vs', ?_, rfl, by rw [List.erase_cons_head]; exact I⟩
      unfold kf_at
      have : isInt n (Value.int n t) = true := by show (n == n) = true; simp
      rw [this]; rfl
    · have hv : v ∈ ns := by
        rcases List.mem_cons.mp h with h1 | h1
        · exact absurd h1.symm e
        · exact h1
      obtain ⟨j, q, h1, h2, h3⟩ := ih hv
      refine ⟨j + 1, .int n t :: q, ?_, ?_, ?_⟩
      · unfold kf_at
        have : isInt v (Value.int n t) = false := by show (n == v) = false; simpa using e
        rw [this, h1]; rfl
      · unfold ki_delL; rw [h2]
      · rw [List.erase_cons_tail (by simpa using e)]
        exact .cons n t h3

theorem OSet.perm {w : World} {o : Obj} {dx l : Addr} {xs ys : List Int} (O : OSet w o dx l xs) (p : xs.Perm ys) : OSet w o dx l ys := ⟨O.cls, O.dict, O.slots, O.set.perm p⟩
end Mine
end

section
open PySem PySem.W PyProof.Rows PySem.Builtin.Frozenset PySem.Calls
set_option Elab.async false
set_option maxRecDepth 100000
set_option maxHeartbeats 4000000
namespace Mine

abbrev tupObj (vs : List Value) : Obj := { cls := .type "tuple", data := .seq vs.toArray }

theorem enterV {w : World} {s₀ : Shared} {mg mb : Str → Option Value} {hb : Heap} {A : Around} {s : Shared} {R : Result → Shared → Prop} (W : List (Addr × Obj))
    {name qual : Str} {params : Arguments} {body : List Stmt} {scope : Scope} {dV kV doc pm cdv ct oc : Value} {an od : Option Addr} {osl : Array (Option Value)} {f : Addr} {args : Args} {front : List (Str × Value)} {nm : Str} {vs : List Value}
    (C : Cx w s₀ mg mb hb) (hk : hb.StaysIn s.heap) (hW : ∀ p ∈ W, s.heap.get? p.1 = some p.2) (hf : ∀ p ∈ W, hb.get? p.1 = none) (hroom : A.depth < recursionLimit)
    (ho : (hd.heap_39 w.params).lookup f = some ⟨oc, od, .func (fnOf name qual params body scope dV kV doc pm an cdv ct), osl⟩) (hcd : codeIn (hd.heap_39 w.params) cdv qual = true)
    (hbind : bindArgs (fnOf name qual params body scope dV kV doc pm an cdv ct) args = newTuple vs >>= fun t => pure (front ++ [(nm, t)])) (hvs : vs.length ≤ sizeLine) (hloc : ∀ y ∈ front ++ [(nm, Value.none)], scope.names.lookup y.1 = some .local)
    (h : ∀ g L' h₁ D, (∀ b o, s.heap.get? b = some o → b ∉ W.map (·.1) → g.get? b = some o) → Cx w s₀ mg mb g → s.heap.objs.size ≤ g.objs.size → D = s.heap.objs.size → L' = s.heap.objs.size + 1 → Fr g L' h₁ (fun y => (front ++ [(nm, Value.ref D)]).reverse.lookup y) → News g L' h₁ ((D, tupObj vs) :: W) → (∀ p ∈ W, p.1 < D) →
      wpAny (model PySem.Challenge.rw_ep5040_01.row.prog w) (A.deeper (envOf qual scope L' f cdv)) (execs body (envOf qual scope L' f cdv))
        (fun fl s' => R (.ok (.ret (match fl with | .ret v => v | _ => .none))) s')
        (fun _ _ => False) { s with heap := h₁, toks := s.toks + (front ++ [(nm, Value.ref D)]).length })
    (hco : scope.isCoroutine = false := by rfl) (hgen : scope.isGenerator = false := by rfl) (hkd : scope.kind = .function := by rfl)
    (hcell : ∀ x ∈ scope.names, x.2 ≠ .cell := by decide) : codeAny (model PySem.Challenge.rw_ep5040_01.row.prog w) A (.call (.ref f) args) R s := by
  have X := C.K.keeps fun b o e => hk b o e
  have nm' : ∀ b o, hb.get? b = some o → b ∉ W.map (·.1) := fun b o e q => by
    obtain ⟨p, hp, rfl⟩ := List.mem_map.mp q
    rw [hf p hp] at e; cases e
  have hlim : s.heap.NoLimit := C.T.nolimit.keeps fun b o e => hk b o e
  refine codeAny_call_function (fd := fnOf name qual params body scope dV kV doc pm an cdv ct) (body := body) hroom (X _ _ ho) rfl hco hgen rfl (codeRec_of X hcd) ?_
  rw [hbind]
  refine wpAny_bind (wpAny_newObj_type (wpAny_pure ?_) (by show vs.toArray.size ≤ sizeLine; rw [List.size_toArray]; exact hvs))
  have hsz : (s.heap.push (tupObj vs)).objs.size = s.heap.objs.size + 1 := Heap.size_push _ _
  have hlim' : (s.heap.push (tupObj vs)).NoLimit := hlim.keeps fun b o e => Heap.get?_push_of_some _ e
  refine wpAny_newFunctionEnv (s := { s with heap := s.heap.push (tupObj vs) }) hcell (fun y hy => ?_) (fun h₁ hns hsb => ⟨hlim'.fresh _ hsb, codeAny_func (body := body) ?_⟩) hkd
  · have : ∀ z : Value, (∀ y ∈ front ++ [(nm, z)], scope.names.lookup y.1 = some .local) := fun z y hy => by
      rcases List.mem_append.mp hy with q | q
      · exact hloc y (List.mem_append_left _ q)
      · simp only [List.mem_singleton] at q; subst q; exact hloc (nm, Value.none) (by simp)
    exact this _ y hy
  · have hk₁ : ∀ b o, (s.heap.push (tupObj vs)).get? b = some o → h₁.get? b = some o := fun b o e => hsb.extBut b o (Nat.ne_of_lt (Heap.lt_size e)) (Heap.get?_push_of_some _ e)
    have hD : s.heap.get? s.heap.objs.size = none := by
      cases e : s.heap.get? s.heap.objs.size with
      | none => rfl
      | some ob => exact absurd (Heap.lt_size e) (Nat.lt_irrefl _)
    have st : hb.StaysIn (hideAll (s.heap.push (tupObj vs)) (s.heap.objs.size :: W.map (·.1))) := fun b o e => by
      refine hideAll_get _ (Heap.get?_push_of_some _ (hk b o e)) fun q => ?_
      rcases List.mem_cons.mp q with rfl | q
      · rw [hk _ _ e] at hD; cases hD
      · exact nm' b o e q
    refine wpAny_mono (h (hideAll (s.heap.push (tupObj vs)) (s.heap.objs.size :: W.map (·.1))) (s.heap.push (tupObj vs)).objs.size h₁ s.heap.objs.size (fun b o e n => ?_) (C.keeps fun b o e => st b o e) (by rw [hideAll_size, hsz]; omega) rfl hsz ⟨hns, fun b o e => hk₁ b o (of_hideAll _ e), by rw [hideAll_size]; exact Nat.le_refl _⟩ ?_ (fun p hp => Heap.lt_size (hW p hp))) (fun _ _ z => z) fun _ _ (z : False) => z.elim
    · refine hideAll_get _ (Heap.get?_push_of_some _ e) fun q => ?_
      rcases List.mem_cons.mp q with rfl | q
      · rw [e] at hD; cases hD
      · exact n q
    · intro p hp
      rcases List.mem_cons.mp hp with rfl | hp
      · exact ⟨hk₁ _ _ (Heap.get?_push_size _ rfl), by rw [hsz]; exact Nat.ne_of_lt (Nat.lt_succ_self _), hideAll_none _ (.head _)⟩
      · exact ⟨hk₁ _ _ (Heap.get?_push_of_some _ (hW p hp)), by rw [hsz]; exact Nat.ne_of_lt (Nat.lt_succ_of_lt (Heap.lt_size (hW p hp))), hideAll_none _ (.tail _ (List.mem_map_of_mem hp))⟩
end Mine
end

section
open PySem PySem.W PyProof.Rows PySem.Builtin.Frozenset PySem.Calls
set_option Elab.async false
set_option maxRecDepth 100000
set_option maxHeartbeats 4000000
namespace Mine

theorem dict_ne_list {h : Heap} {a l : Addr} {items : Array Value} (ho : h.get? a = some dictObj) (hl : h.IsList l items) : a ≠ l := by
  rintro rfl
  obtain ⟨_, h1, hc, _⟩ := hl
  rw [ho] at h1; cases h1
  exact absurd (Value.type.inj hc) (by decide)
theorem updL_take {xs ys : List Int} {j : Nat} {k : Int} (hk : ys[j]? = some k) : updL xs (ys.take (j + 1)) = addL (updL xs (ys.take j)) k := by
  unfold updL
  rw [List.take_add_one, hk]
  simp
def Hold (P : Prop) : Prop := P
theorem hold_in {P : Prop} (h : Hold P) : P := h

/-- the end of a loop's turn -/
def TurnEnd (h₀ : Heap) (L : Addr) (J : (Str → Option Value) → List (Addr × Obj) → Prop) (fx : List (Addr × Obj)) (adr : List Addr) (s₁ : Shared) (Qr : Value → Shared → Prop) (f : Flow) (s' : Shared) : Prop :=
  match f with
  | .ret v => Qr v s'
  | .brk => False
  | _ => ∃ h' tk' m' news', s' = { s₁ with heap := h', toks := tk' } ∧ Fr h₀ L h' m' ∧ News h₀ L h' (fx ++ news') ∧ news'.map (·.1) = adr ∧ J m' news'

theorem TurnEnd.next {h₀ : Heap} {L : Addr} {J : (Str → Option Value) → List (Addr × Obj) → Prop} {fx : List (Addr × Obj)} {adr : List Addr} {s₁ : Shared} {Qr : Value → Shared → Prop} {h' : Heap} {tk' : Nat} {m' : Str → Option Value} {news' : List (Addr × Obj)}
    (F : Fr h₀ L h' m') (N : News h₀ L h' (fx ++ news')) (ha : news'.map (·.1) = adr) (hJ : J m' news') : TurnEnd h₀ L J fx adr s₁ Qr .next { s₁ with heap := h', toks := tk' } := ⟨h', tk', m', news', rfl, F, N, ha, hJ⟩

section
variable {prog : Program} {w : World} {A : Around} {E : Value → Shared → Prop} {s : Shared} {env : Env} {h₀ : Heap} {x : Str} {body : List Stmt} {Q : Flow → Shared → Prop}

theorem for_my {I : Addr} {fp : List Addr} {n : Nat} {P : Nat → Value → Prop} {St : Nat → Heap → Prop} {news src : List (Addr × Obj)} {m₀ : Str → Option Value} {oI : Obj} (J : Nat → (Str → Option Value) → List (Addr × Obj) → Prop)
    (W : Walks prog w A I fp [I] n P St) (hSt : ∀ i h, St i h → ∃ o, h.get? I = some o) (hIf : I ∈ fp) (hst : St 0 s.heap) (F : Fr h₀ env.locals s.heap m₀) (N : News h₀ env.locals s.heap ((I, oI) :: (src ++ news)))
    (hfp : ∀ b ∈ fp, b = I ∨ (∃ o, (b, o) ∈ src) ∨ ∃ o, h₀.get? b = some o) (hLf : env.locals ∉ fp) (hI : ∀ p ∈ src ++ news, p.1 ≠ I) (hJ : J 0 m₀ news)
    (turn : ∀ i v m₁ news₁ h tk oI', i < n → P i v → J i m₁ news₁ → news₁.map (·.1) = news.map (·.1) → Fr h₀ env.locals h (fun z => if z = x then some v else m₁ z) → News h₀ env.locals h ((I, oI') :: (src ++ news₁)) →
      wpAny (model prog w) A (execs body env) (TurnEnd h₀ env.locals (J (i + 1)) ((I, oI') :: src) (news.map (·.1)) { s with heap := h, toks := tk } (fun v s' => Q (.ret v) s')) E { s with heap := h, toks := tk })
    (done : ∀ h' tk m' news', Fr h₀ env.locals h' m' → News h₀ env.locals h' (src ++ news') → news'.map (·.1) = news.map (·.1) → J n m' news' → Q .next { s with heap := h', toks := tk }) :
    LoopAtV prog w A h₀ env x body Q E (.ref I) s := by
  have hI0 : h₀.get? I = none := (N _ (.head _)).2.2
  have adr : ∀ news' : List (Addr × Obj), news'.map (·.1) = news.map (·.1) → ∀ p ∈ src ++ news', p.1 ≠ I := by
    intro news' ha p hp
    rcases List.mem_append.mp hp with q | q
    · exact hI p (List.mem_append_left _ q)
    · have : p.1 ∈ news'.map (·.1) := List.mem_map_of_mem q
      rw [ha] at this
      obtain ⟨r, hr, e⟩ := List.mem_map.mp this
      rw [← e]; exact hI r (List.mem_append_right _ hr)
  refine ⟨I, fp, [I], n, P, St, m₀, src ++ news, fun i m full => ∃ news₁, full = src ++ news₁ ∧ news₁.map (·.1) = news.map (·.1) ∧ J i m news₁, rfl, W, hLf, ?_, ?_, hst, F, fun p hp => N p (.tail _ hp), ⟨news, rfl, rfl, hJ⟩, ?_, ?_⟩
  · intro b hb; rw [List.mem_singleton.mp hb]; exact hI0
  · intro p hp hm; exact hI p hp (List.mem_singleton.mp hm)
  · rintro i v m₁ full s₁ own ⟨hp, tk, rfl⟩ hi hPv ⟨news₁, rfl, ha, hJi⟩ hoff hof hov hown hst' F₁ N₁
    obtain ⟨oI', hoI⟩ : ∃ oI', hp.get? I = some oI' := hSt _ _ hst'
    have hIown : (I, oI') ∈ own := hown I hIf hI0 oI' hoI
    have N₂ : News h₀ env.locals hp ((I, oI') :: (src ++ news₁)) := fun p hp' => by
      rcases List.mem_cons.mp hp' with rfl | q
      · exact N₁ _ (List.mem_append_left _ hIown)
      · exact N₁ p (List.mem_append_right _ q)
    refine wpAny_mono (turn i v m₁ news₁ hp tk oI' hi hPv hJi ha F₁ N₂) (fun f s' z => ?_) fun _ _ z => z
    have fin : (∃ h' tk' m' news', s' = { s with heap := h', toks := tk' } ∧ Fr h₀ env.locals h' m' ∧ News h₀ env.locals h' (((I, oI') :: src) ++ news') ∧ news'.map (·.1) = news.map (·.1) ∧ J (i + 1) m' news') →
        LoopStepU h₀ env.locals [I] own (fun m full => ∃ news₁, full = src ++ news₁ ∧ news₁.map (·.1) = news.map (·.1) ∧ J (i + 1) m news₁) { s with heap := hp, toks := tk } .next s' := by
      rintro ⟨h', tk', m', news', e, F', N', ha', hJ'⟩
      refine ⟨rfl, h', tk', m', src ++ news', e, F', fun p hp' => ?_, fun p hp' hm => adr news' ha' p hp' (List.mem_singleton.mp hm), news', rfl, ha', hJ'⟩
      rcases List.mem_append.mp hp' with q | q
      · rcases hfp p.1 (hof p q) with h1 | ⟨o, h1⟩ | ⟨o, h1⟩
        · have e1 := hov p q
          rw [h1] at e1
          dsimp only at e1
          rw [hoI] at e1
          have : p = (I, oI') := Prod.ext h1 (Option.some.inj e1).symm
          rw [this]
          exact N' _ (.head _)
        · have e1 := hov p q
          have e2 := (N₂ (p.1, o) (.tail _ (List.mem_append_left _ h1))).1
          dsimp only at e1 e2
          rw [e2] at e1
          have : p = (p.1, o) := Prod.ext rfl (Option.some.inj e1).symm
          rw [this]
          exact N' _ (.tail _ (List.mem_append_left _ h1))
        · have := (N₁ p (List.mem_append_left _ q)).2.2
          rw [h1] at this; cases this
      · exact N' p (.tail _ q)
    cases f with
    | ret v => exact z
    | brk => exact z.elim
    | next => exact fin z
    | cont => exact fin z
  · rintro h' tk m' full F' N' hoff ⟨news', rfl, ha, hJn⟩
    exact done h' tk m' news' F' N' ha hJn

theorem iter_led_ne {news : List (Addr × Obj)} {m₀ : Str → Option Value} (F : Fr h₀ env.locals s.heap m₀) (N : News h₀ env.locals s.heap news) : (∀ p ∈ news, p.1 ≠ s.heap.objs.size) ∧ env.locals ≠ s.heap.objs.size ∧ h₀.get? s.heap.objs.size = none := by
  refine ⟨fun p hp => Nat.ne_of_lt (Heap.lt_size (N p hp).1), Nat.ne_of_lt F.ns.lt, ?_⟩
  cases e : h₀.get? s.heap.objs.size with
  | none => rfl
  | some o => exact absurd (Heap.lt_size (F.keep _ _ e)) (Nat.lt_irrefl _)

/-- a loop over a list of ints that stands in the base or in the ledger's fixed part -/
theorem for_list {y : Addr} {vs : List Value} {ns : List Int} {news src : List (Addr × Obj)} {m₀ : Str → Option Value} (J : Nat → (Str → Option Value) → List (Addr × Obj) → Prop)
    (hh : A.handled = none) (hl : s.heap.IsList y vs.toArray) (hi : IntsAre vs ns) (F : Fr h₀ env.locals s.heap m₀) (N : News h₀ env.locals s.heap (src ++ news)) (hsrc : (∃ o, (y, o) ∈ src) ∨ ∃ o, h₀.get? y = some o) (hyL : y ≠ env.locals) (hJ : J 0 m₀ news)
    (turn : ∀ i n t m₁ news₁ h tk I oI, ns[i]? = some n → (∀ p ∈ src ++ news, p.1 < I) → J i m₁ news₁ → news₁.map (·.1) = news.map (·.1) → Fr h₀ env.locals h (fun z => if z = x then some (.int n t) else m₁ z) → News h₀ env.locals h ((I, oI) :: (src ++ news₁)) →
      wpAny (model prog w) A (execs body env) (TurnEnd h₀ env.locals (J (i + 1)) ((I, oI) :: src) (news.map (·.1)) { s with heap := h, toks := tk } (fun v s' => Q (.ret v) s')) E { s with heap := h, toks := tk })
    (done : ∀ h' tk m' news', Fr h₀ env.locals h' m' → News h₀ env.locals h' (src ++ news') → news'.map (·.1) = news.map (·.1) → J ns.length m' news' → Q .next { s with heap := h', toks := tk }) :
    wpAny (model prog w) A (pyIter (.ref y)) (fun it s₂ => LoopAtV prog w A h₀ env x body Q E it s₂) E s := by
  obtain ⟨h1, h2, h3⟩ := iter_led_ne F N
  have hne : y ≠ s.heap.objs.size := by obtain ⟨o, ho, _⟩ := hl; exact Nat.ne_of_lt (Heap.lt_size ho)
  refine wpAny_pyIter_list hl ?_
  have hit := iter_at (s := s) hl
  have hlen : vs.toArray.size = ns.length := by simp [hi.length]
  have W := Walks.list (prog := prog) (w := w) hh s.heap.objs.size y hne vs.toArray
  rw [hlen] at W
  refine for_my (s := { s with heap := s.heap.push { cls := .type "list_iterator", data := .fields #[.ref y, .int 0 0] } }) (src := src) (news := news) (oI := { cls := .type "list_iterator", data := .fields #[.ref y, .int 0 0] }) J W (fun i h st => let ⟨o, ho, _⟩ := st.1; ⟨o, ho⟩) (by simp) hit (F.push _) ?_ ?_ ?_ h1 hJ ?_ ?_
  · intro p hp
    rcases List.mem_cons.mp hp with rfl | q
    · exact ⟨Heap.get?_push_size _ rfl, fun e => h2 e.symm, h3⟩
    · exact ⟨Heap.get?_push_of_some _ (N p q).1, (N p q).2⟩
  · intro b hb
    rcases List.mem_cons.mp hb with rfl | q
    · exact .inl rfl
    · rw [List.mem_singleton.mp q]; exact .inr hsrc
  · intro hm
    rcases List.mem_cons.mp hm with e | q
    · exact h2 e
    · exact hyL (List.mem_singleton.mp q).symm
  · intro i v m₁ news₁ h tk oI' hin hPv hJi ha F₁ N₁
    obtain ⟨k, t, rfl, hk⟩ := IntsAre.at hi i v (by simpa using hPv)
    exact turn i k t m₁ news₁ h tk s.heap.objs.size oI' hk (fun p hp => Heap.lt_size (N p hp).1) hJi ha F₁ N₁
  · exact done

/-- a loop over a tuple of the ledger's fixed part -/
theorem for_tup {y : Addr} {vs : List Value} {k : Nat} {news src : List (Addr × Obj)} {m₀ : Str → Option Value} (J : Nat → (Str → Option Value) → List (Addr × Obj) → Prop)
    (hh : A.handled = none) (F : Fr h₀ env.locals s.heap m₀) (N : News h₀ env.locals s.heap (src ++ news)) (hsrc : (y, (⟨.type "tuple", none, .seq vs.toArray k, #[]⟩ : Obj)) ∈ src) (hJ : J 0 m₀ news)
    (turn : ∀ i v m₁ news₁ h tk I oI, vs[i]? = some v → (∀ p ∈ src ++ news, p.1 < I) → J i m₁ news₁ → news₁.map (·.1) = news.map (·.1) → Fr h₀ env.locals h (fun z => if z = x then some v else m₁ z) → News h₀ env.locals h ((I, oI) :: (src ++ news₁)) →
      wpAny (model prog w) A (execs body env) (TurnEnd h₀ env.locals (J (i + 1)) ((I, oI) :: src) (news.map (·.1)) { s with heap := h, toks := tk } (fun v s' => Q (.ret v) s')) E { s with heap := h, toks := tk })
    (done : ∀ h' tk m' news', Fr h₀ env.locals h' m' → News h₀ env.locals h' (src ++ news') → news'.map (·.1) = news.map (·.1) → J vs.length m' news' → Q .next { s with heap := h', toks := tk }) :
    wpAny (model prog w) A (pyIter (.ref y)) (fun it s₂ => LoopAtV prog w A h₀ env x body Q E it s₂) E s := by
  obtain ⟨h1, h2, h3⟩ := iter_led_ne F N
  have hy := N _ (List.mem_append_left _ hsrc)
  have ht : s.heap.IsTuple y vs.toArray := ⟨_, hy.1, rfl, k, rfl⟩
  have hne : y ≠ s.heap.objs.size := Nat.ne_of_lt (Heap.lt_size hy.1)
  refine wpAny_pyIter_tuple ht ?_
  have hlen : vs.toArray.size = vs.length := by simp
  have W := Walks.tuple (prog := prog) (w := w) hh s.heap.objs.size y hne vs.toArray
  rw [hlen] at W
  refine for_my (s := { s with heap := s.heap.push { cls := .type "tuple_iterator", data := .fields #[.ref y, .int 0 0] } }) (src := src) (news := news) (oI := { cls := .type "tuple_iterator", data := .fields #[.ref y, .int 0 0] }) J W (fun i h st => let ⟨o, ho, _⟩ := st.1; ⟨o, ho⟩) (by simp)
    ⟨⟨_, Heap.get?_push_size _ rfl, rfl, rfl⟩, let ⟨o, ho, r⟩ := ht; ⟨o, Heap.get?_push_of_some _ ho, r⟩⟩ (F.push _) ?_ ?_ ?_ h1 hJ ?_ ?_
  · intro p hp
    rcases List.mem_cons.mp hp with rfl | q
    · exact ⟨Heap.get?_push_size _ rfl, fun e => h2 e.symm, h3⟩
    · exact ⟨Heap.get?_push_of_some _ (N p q).1, (N p q).2⟩
  · intro b hb
    rcases List.mem_cons.mp hb with rfl | q
    · exact .inl rfl
    · rw [List.mem_singleton.mp q]; exact .inr (.inl ⟨_, hsrc⟩)
  · intro hm
    rcases List.mem_cons.mp hm with e | q
    · exact h2 e
    · exact hy.2.1 (List.mem_singleton.mp q).symm
  · intro i v m₁ news₁ h tk oI' hin hPv hJi ha F₁ N₁
    exact turn i v m₁ news₁ h tk s.heap.objs.size oI' (by simpa using hPv) (fun p hp => Heap.lt_size (N p hp).1) hJi ha F₁ N₁
  · exact done
end
end Mine
end

section
open PySem PySem.W PyProof.Rows PySem.Builtin.Frozenset PySem.Calls
set_option Elab.async false
set_option maxRecDepth 100000
set_option maxHeartbeats 4000000
namespace Mine

theorem hide_facts {hb h : Heap} {W : List (Addr × Obj)} (hk : hb.StaysIn h) (hf : ∀ p ∈ W, hb.get? p.1 = none) : hb.StaysIn (hideAll h (W.map (·.1))) := fun b o e => hideAll_get _ (hk b o e) fun q => by
  obtain ⟨p, hp, rfl⟩ := List.mem_map.mp q
  rw [hf p hp] at e; cases e

/-- a call of one of the text's functions that has cells -/
theorem enterC {w : World} {s₀ : Shared} {mg mb : Str → Option Value} {hb : Heap} {A : Around} {s : Shared} {R : Result → Shared → Prop} (W : List (Addr × Obj))
    {name qual : Str} {params : Arguments} {body : List Stmt} {scope : Scope} {dV kV doc pm cdv ct oc : Value} {an od : Option Addr} {osl : Array (Option Value)} {f : Addr} {args : Args} {binds : List (Str × Value)}
    (C : Cx w s₀ mg mb hb) (hk : hb.StaysIn s.heap) (hW : ∀ p ∈ W, s.heap.get? p.1 = some p.2) (hf : ∀ p ∈ W, hb.get? p.1 = none) (hroom : A.depth < recursionLimit)
    (ho : (hd.heap_39 w.params).lookup f = some ⟨oc, od, .func (fnOf name qual params body scope dV kV doc pm an cdv ct), osl⟩) (hcd : codeIn (hd.heap_39 w.params) cdv qual = true)
    (hbind : BindsTo s (fnOf name qual params body scope dV kV doc pm an cdv ct) args binds)
    (hkind : ∀ n, ∀ x ∈ binds, scope.names.lookup x.1 = some .local ∨ (scope.names.lookup x.1 = some .cell ∧ ((cellsFrom n scope.names []).lookup x.1).isSome = true))
    (hnd : ((cellsFrom 0 scope.names []).map (·.1)).Nodup)
    (h : ∀ g L' h₁ tk cells, (∀ b o, s.heap.get? b = some o → b ∉ W.map (·.1) → g.get? b = some o) → Cx w s₀ mg mb g → g.objs.size = s.heap.objs.size → L' = s.heap.objs.size →
      Fr g L' h₁ (bindL (envOfC qual scope L' f cdv).kindOf binds fun _ => none) → News g L' h₁ (cells ++ W) →
      CellsAre (bindC (envOfC qual scope L' f cdv).kindOf binds fun _ => none) (cellsFrom (L' + 1) scope.names []) cells → (∀ p ∈ W, p.1 < L') →
      wpAny (model PySem.Challenge.rw_ep5040_01.row.prog w) (A.deeper (envOfC qual scope L' f cdv)) (execs body (envOfC qual scope L' f cdv))
        (fun fl s' => R (.ok (.ret (match fl with | .ret v => v | _ => .none))) s')
        (fun _ _ => False) { s with heap := h₁, toks := tk })
    (hco : scope.isCoroutine = false := by rfl) (hgen : scope.isGenerator = false := by rfl) (hkd : scope.kind = .function := by rfl) : codeAny (model PySem.Challenge.rw_ep5040_01.row.prog w) A (.call (.ref f) args) R s := by
  have X := C.K.keeps fun b o e => hk b o e
  have hlim : s.heap.NoLimit := C.T.nolimit.keeps fun b o e => hk b o e
  have st := hide_facts hk hf
  refine codeAny_call_function (fd := fnOf name qual params body scope dV kV doc pm an cdv ct) (body := body) hroom (X _ _ ho) rfl hco hgen rfl (codeRec_of X hcd) (hbind _ _ _ _ ?_)
  refine wpAny_newFunctionEnv_cells hkd (hkind _) fun env' he s' x => ?_
  subst he
  refine ⟨hlim.keeps x.toInCall.keep, codeAny_func ?_⟩
  obtain ⟨h₁, tk, rfl, _⟩ := x.done
  have hk₁ := x.toInCall.keep
  obtain ⟨cells, NC, Y⟩ := Cl.news (h₀ := s.heap) (Nat.le_refl _) fun n c hm => ⟨x.cell n c (lookup_of_mem_nodup (cellsFrom_names scope.names 0 (s.heap.objs.size + 1) [] [] rfl ▸ hnd) hm), x.above n c hm⟩
  refine wpAny_mono (h (hideAll s.heap (W.map (·.1))) s.heap.objs.size h₁ tk cells (fun b o e n => hideAll_get _ e n) (C.keeps fun b o e => st b o e) (hideAll_size _ _) rfl ⟨x.toInCall.ns, fun b o e => hk₁ b o (of_hideAll _ e), Nat.le_of_eq (hideAll_size _ _)⟩ (fun p hp => ?_) Y (fun p hp => Heap.lt_size (hW p hp))) (fun _ _ z => z) fun _ _ (z : False) => z.elim
  rcases List.mem_append.mp hp with hp | hp
  · refine ⟨(NC p hp).1, (NC p hp).2.1, ?_⟩
    cases q : (hideAll s.heap (W.map (·.1))).get? p.1 with
    | none => rfl
    | some o => have := of_hideAll _ q; rw [(NC p hp).2.2] at this; cases this
  · exact ⟨hk₁ _ _ (hW p hp), Nat.ne_of_lt (Heap.lt_size (hW p hp)), hideAll_none _ (List.mem_map_of_mem hp)⟩

/-- the same, for one with a star argument -/
theorem enterVC {w : World} {s₀ : Shared} {mg mb : Str → Option Value} {hb : Heap} {A : Around} {s : Shared} {R : Result → Shared → Prop} (W : List (Addr × Obj))
    {name qual : Str} {params : Arguments} {body : List Stmt} {scope : Scope} {dV kV doc pm cdv ct oc : Value} {an od : Option Addr} {osl : Array (Option Value)} {f : Addr} {args : Args} {front : List (Str × Value)} {nm : Str} {vs : List Value}
    (C : Cx w s₀ mg mb hb) (hk : hb.StaysIn s.heap) (hW : ∀ p ∈ W, s.heap.get? p.1 = some p.2) (hf : ∀ p ∈ W, hb.get? p.1 = none) (hroom : A.depth < recursionLimit)
    (ho : (hd.heap_39 w.params).lookup f = some ⟨oc, od, .func (fnOf name qual params body scope dV kV doc pm an cdv ct), osl⟩) (hcd : codeIn (hd.heap_39 w.params) cdv qual = true)
    (hbind : bindArgs (fnOf name qual params body scope dV kV doc pm an cdv ct) args = newTuple vs >>= fun t => pure (front ++ [(nm, t)])) (hvs : vs.length ≤ sizeLine)
    (hkind : ∀ n v, ∀ x ∈ front ++ [(nm, v)], scope.names.lookup x.1 = some .local ∨ (scope.names.lookup x.1 = some .cell ∧ ((cellsFrom n scope.names []).lookup x.1).isSome = true))
    (hnd : ((cellsFrom 0 scope.names []).map (·.1)).Nodup)
    (h : ∀ g L' h₁ tk D cells, (∀ b o, s.heap.get? b = some o → b ∉ W.map (·.1) → g.get? b = some o) → Cx w s₀ mg mb g → s.heap.objs.size ≤ g.objs.size → D = s.heap.objs.size → L' = s.heap.objs.size + 1 →
      Fr g L' h₁ (bindL (envOfC qual scope L' f cdv).kindOf (front ++ [(nm, Value.ref D)]) fun _ => none) → News g L' h₁ (cells ++ ((D, tupObj vs) :: W)) →
      CellsAre (bindC (envOfC qual scope L' f cdv).kindOf (front ++ [(nm, Value.ref D)]) fun _ => none) (cellsFrom (L' + 1) scope.names []) cells → (∀ p ∈ (D, tupObj vs) :: W, p.1 < L') → (∀ p ∈ W, p.1 < D) →
      wpAny (model PySem.Challenge.rw_ep5040_01.row.prog w) (A.deeper (envOfC qual scope L' f cdv)) (execs body (envOfC qual scope L' f cdv))
        (fun fl s' => R (.ok (.ret (match fl with | .ret v => v | _ => .none))) s')
        (fun _ _ => False) { s with heap := h₁, toks := tk })
    (hco : scope.isCoroutine = false := by rfl) (hgen : scope.isGenerator = false := by rfl) (hkd : scope.kind = .function := by rfl) : codeAny (model PySem.Challenge.rw_ep5040_01.row.prog w) A (.call (.ref f) args) R s := by
  have X := C.K.keeps fun b o e => hk b o e
  have hlim : s.heap.NoLimit := C.T.nolimit.keeps fun b o e => hk b o e
  refine codeAny_call_function (fd := fnOf name qual params body scope dV kV doc pm an cdv ct) (body := body) hroom (X _ _ ho) rfl hco hgen rfl (codeRec_of X hcd) ?_
  rw [hbind]
  refine wpAny_bind (wpAny_newObj_type (wpAny_pure ?_) (by show vs.toArray.size ≤ sizeLine; rw [List.size_toArray]; exact hvs))
  have hsz : (s.heap.push (tupObj vs)).objs.size = s.heap.objs.size + 1 := Heap.size_push _ _
  have hlim' : (s.heap.push (tupObj vs)).NoLimit := hlim.keeps fun b o e => Heap.get?_push_of_some _ e
  have hk' : hb.StaysIn (s.heap.push (tupObj vs)) := fun b o e => Heap.get?_push_of_some _ (hk b o e)
  have hD : s.heap.get? s.heap.objs.size = none := by
    cases e : s.heap.get? s.heap.objs.size with
    | none => rfl
    | some ob => exact absurd (Heap.lt_size e) (Nat.lt_irrefl _)
  have hW' : ∀ p ∈ (s.heap.objs.size, tupObj vs) :: W, (s.heap.push (tupObj vs)).get? p.1 = some p.2 := fun p hp => by
    rcases List.mem_cons.mp hp with rfl | hp
    · exact Heap.get?_push_size s.heap rfl
    · exact Heap.get?_push_of_some _ (hW p hp)
  have hf' : ∀ p ∈ (s.heap.objs.size, tupObj vs) :: W, hb.get? p.1 = none := fun p hp => by
    rcases List.mem_cons.mp hp with rfl | hp
    · cases e : hb.get? s.heap.objs.size with
      | none => rfl
      | some ob => rw [hk _ _ e] at hD; cases hD
    · exact hf p hp
  have st := hide_facts hk' hf'
  refine wpAny_newFunctionEnv_cells (s := { s with heap := s.heap.push (tupObj vs) }) hkd (hkind _ _) fun env' he s' x => ?_
  subst he
  refine ⟨hlim'.keeps x.toInCall.keep, codeAny_func ?_⟩
  obtain ⟨h₁, tk, rfl, _⟩ := x.done
  have hk₁ := x.toInCall.keep
  obtain ⟨cells, NC, Y⟩ := Cl.news (h₀ := s.heap.push (tupObj vs)) (Nat.le_refl _) fun n c hm => ⟨x.cell n c (lookup_of_mem_nodup (cellsFrom_names scope.names 0 ((s.heap.push (tupObj vs)).objs.size + 1) [] [] rfl ▸ hnd) hm), x.above n c hm⟩
  refine wpAny_mono (h (hideAll (s.heap.push (tupObj vs)) (((s.heap.objs.size, tupObj vs) :: W).map (·.1))) (s.heap.push (tupObj vs)).objs.size h₁ tk s.heap.objs.size cells (fun b o e n => ?_) (C.keeps fun b o e => st b o e) (by rw [hideAll_size, hsz]; omega) rfl hsz
    ⟨x.toInCall.ns, fun b o e => hk₁ b o (of_hideAll _ e), Nat.le_of_eq (hideAll_size _ _)⟩ (fun p hp => ?_) Y (fun p hp => Heap.lt_size (hW' p hp)) (fun p hp => Heap.lt_size (hW p hp))) (fun _ _ z => z) fun _ _ (z : False) => z.elim
  · refine hideAll_get _ (Heap.get?_push_of_some _ e) fun q => ?_
    rcases List.mem_cons.mp q with rfl | q
    · rw [e] at hD; cases hD
    · exact n q
  · rcases List.mem_append.mp hp with hp | hp
    · refine ⟨(NC p hp).1, (NC p hp).2.1, ?_⟩
      cases q : (hideAll (s.heap.push (tupObj vs)) (((s.heap.objs.size, tupObj vs) :: W).map (·.1))).get? p.1 with
      | none => rfl
      | some o => have := of_hideAll _ q; rw [(NC p hp).2.2] at this; cases this
    · exact ⟨hk₁ _ _ (hW' p hp), Nat.ne_of_lt (Heap.lt_size (hW' p hp)), hideAll_none _ (List.mem_map_of_mem hp)⟩
end Mine
end

section
open PySem PySem.W PyProof.Rows PySem.Builtin.Frozenset PySem.Calls
set_option Elab.async false
set_option maxRecDepth 100000
set_option maxHeartbeats 4000000
namespace Mine

section
variable {prog : Program} {w : World} {A : Around} {E : Value → Shared → Prop} {s : Shared} {env : Env} {h₀ : Heap} {L : Addr} {m : Str → Option Value} {news : List (Addr × Obj)}

/-- a method call with a star in it: the name is loaded as any attribute is -/
theorem methodCall_star {M : Model} {o : Expr} {name : Str} {apos pos : Pos} {args : List Expr} {Q : Value → Shared → Prop}
    (hst : (starEach args env).any (·.1) = true) (hbase : attributeBase o name env (eval o env) = eval o env := by rfl)
    (h : wpAny M A (eval o env) (fun ov s₁ => wpAny M A (getAttr ov name true) (fun f s₂ => wpAny M A (callWith pos f [] (backTo pos (starEach args env)) []) Q E s₂) E s₁) E s) :
    wpAny M A (eval (.Call (.Attribute o name apos) args [] pos) env) Q E s := by
  have hb : ∀ xs : List (Bool × Sem Value), xs.any (·.1) = true → (backTo pos xs).all (fun x => !x.1) = false := by
    intro xs hx
    induction xs with
    | nil => simp at hx
    | cons x xs ih =>
      obtain ⟨b, t⟩ := x
      cases b with
      | true => rfl
      | false =>
        have : xs.any (·.1) = true := by simpa using hx
        have := ih this
        simpa [backTo] using this
  have hform : methodCallForm (args.length + ([] : List Keyword).length) (backTo pos (starEach args env)) (backToKw pos (keywordEach [] env)) = false := by
    unfold methodCallForm
    rw [hb _ hst]; rfl
  rw [arm_eval_Call, hbase]
  refine wpAny_bind (wpAny_mono h (fun ov s₁ h₁ => ?_) fun _ _ x => x)
  refine wpAny_bind (wpAny_standAt ?_)
  unfold methodCall
  rw [hform]
  refine wpAny_bind (wpAny_holding ?_)
  unfold calleeOf
  simp only [Bool.false_eq_true, if_false]
  refine wpAny_bind (wpAny_mono h₁ (fun f s₂ h₂ => ?_) fun _ _ x => x)
  refine wpAny_pure ?_
  have hpos : methodCallPos false o env apos pos = pure pos := rfl
  rw [hpos]
  exact wpAny_bind (wpAny_pure h₂)

theorem paired_eq {α : Type} : ∀ {xs ys : List α}, Paired (fun a b => b = a) xs ys → ys = xs
  | _, _, .nil => rfl
  | _, _, .cons h t => by rw [h, paired_eq t]

def keepI (p : Int → Bool) : Value → Bool
  | .int k _ => p k
  | _ => false

theorem ints_filter {vs : List Value} {xs : List Int} (I : IntsAre vs xs) (p : Int → Bool) : IntsAre (vs.filter (keepI p)) (xs.filter p) := by
  induction I with
  | nil => exact .nil
  | @cons n t vs' ns I ih =>
    by_cases e : p n = true
    · have e1 : keepI p (Value.int n t) = true := e
      rw [List.filter_cons_of_pos e1, List.filter_cons_of_pos e]
      exact .cons n t ih
    · have e1 : ¬ keepI p (Value.int n t) = true := e
      rw [List.filter_cons_of_neg e1, List.filter_cons_of_neg e]
      exact ih

theorem list_of_at {vs us : List Value} (hl : vs.length = us.length) (h : ∀ (j : Nat) (v : Value), vs[j]? = some v → us[j]? = some v) : vs = us := by
  refine List.ext_getElem? fun j => ?_
  cases e : vs[j]? with
  | some v => exact (h j v e).symm
  | none =>
    have := List.getElem?_eq_none_iff.mp e
    exact (List.getElem?_eq_none_iff.mpr (by omega)).symm

/-- [x for x in row if test]: a new list of what passes; the test may read what stands -/
theorem filt_N {iter c : Expr} {x : Str} {px pe : Pos} {scope : Scope} {cl : List (Str × Addr)} {pos : Pos} {Q : Value → Shared → Prop} {l : Addr} {vs : List Value} {xs : List Int} (p : Int → Bool)
    (hh : A.handled = none) (F : Fr h₀ L s.heap m) (N : News h₀ L s.heap news) (hl : s.heap.IsList l vs.toArray) (I : IntsAre vs xs) (hb : xs.length < 200)
    (hclos : closureFor scope env = pure cl) (hcell : ∀ y ∈ scope.names, y.2 ≠ .cell) (hkind : scope.kind = .function)
    (hnames : ∀ y ∈ scope.names, y.2 = .local → scope.names.lookup y.1 = some .local) (hx : scope.names.lookup x = some .local) (hdx : (x == ("__debug__" : Str)) = false)
    (hiter : wpAny (model prog w) A (eval iter env) (fun xv s₁ => xv = .ref l ∧ ∃ tk, s₁ = { s with toks := tk }) E s)
    (htest : ∀ C k t s₃ m₃ E', s₃.heap.Ns C m₃ → m₃ x = some (.int k t) → (∀ b o, s.heap.get? b = some o → s₃.heap.get? b = some o) →
      wpAny (model prog w) A (isTrue c (compEnvC scope cl C env) (eval c (compEnvC scope cl C env))) (fun ok s₄ => ok = p k ∧ Keeps s₃ s₄) E' s₃)
    (h : ∀ D h' tk n, Fr h₀ L h' m → News h₀ L h' ((D, PySem.W.listOf (vs.filter (keepI p)).toArray n) :: news) → IntsAre (vs.filter (keepI p)) (xs.filter p) → s.heap.get? D = none → Q (.ref D) { s with heap := h', toks := tk })
    (hs : ∀ x, foldedSetIterable iter env x = pure x := by intro _; rfl) :
    wpAny (model prog w) A (eval (.ListComp (.Name x pe) [⟨.Name x px, iter, [c], 0⟩] scope pos) env) Q E s := by
  have hlen : vs.toArray.size = xs.length := by simp [I.length]
  refine wpAny_ListComp_free (keepI p) (fun a b => b = a) hclos hcell hkind hnames hx (wpAny_mono hiter (fun xv s₁ h₁ => ?_) fun _ _ e => e) hs
  obtain ⟨rfl, tk₁, rfl⟩ := h₁
  refine wpAny_pyIter_list (s := { s with toks := tk₁ }) hl ?_
  have hit := iter_at (s := { s with toks := tk₁ }) hl
  have hne : l ≠ s.heap.objs.size := by obtain ⟨o, ho, _⟩ := hl; exact Nat.ne_of_lt (Heap.lt_size ho)
  have W := Walks.list (prog := prog) (w := w) hh s.heap.objs.size l hne vs.toArray
  have up : ∀ b o, s.heap.get? b = some o → (s.heap.push { cls := .type "list_iterator", data := .fields #[.ref l, .int 0 0] }).get? b = some o := fun b o e => Heap.get?_push_of_some _ e
  have nI : ∀ b o, s.heap.get? b = some o → b ∉ [s.heap.objs.size] := fun b o e q => by rw [List.mem_singleton.mp q] at e; exact absurd (Heap.lt_size e) (Nat.lt_irrefl _)
  refine ⟨_, _, _, _, _, _, rfl, W, ?_, hit, ?_, ⟨?_, ?_⟩, ?_⟩
  · rw [hlen, sizeLine_eq]; omega
  · intro b hb
    show b < (s.heap.push _).objs.size
    rw [Heap.size_push]
    rcases List.mem_cons.mp hb with rfl | q
    · exact Nat.lt_succ_self _
    · rw [List.mem_singleton.mp q]; obtain ⟨o, ho, _⟩ := hl; exact Nat.lt_succ_of_lt (Heap.lt_size ho)
  · intro C i v s₃ m₃ E' hC hPv hns hm hk htk
    obtain ⟨k, t, rfl, hk'⟩ := IntsAre.at I i v (by simpa using hPv)
    exact wpAny_tests_one (htest C k t s₃ m₃ E' hns hm (fun b o e => hk b o (nI b o e) (up b o e)))
  · intro C i v s₃ m₃ E' hC hPv hpv hns hm hk htk
    refine wpAny_Name (wpAny_loadName_local (by show (relabel scope env).kind = _; exact hkind) (lookup_relabel_local hx) hns hm ?_) hdx
    exact ⟨rfl, s₃.heap, s₃.toks, rfl, fun _ _ e => e⟩
  · intro D h' tk ys us hD hyl hpl hul hP hF hk
    have e1 : us = vs := list_of_at (by rw [hul]; simp) (fun j v e => by simpa using hP j v e)
    have e2 := paired_eq hF
    rw [e1] at e2
    obtain ⟨n, hn⟩ := hpl
    have e3 : ys = (vs.filter (keepI p)).toArray := by rw [← e2]
    rw [e3] at hn
    have all : ∀ b o, s.heap.get? b = some o → h'.get? b = some o := fun b o e => hk b o (nI b o e) (up b o e)
    have hD0 : s.heap.get? D = none := by
      cases e : s.heap.get? D with
      | none => rfl
      | some ob => have := up D ob e; have hD2 : (s.heap.push { cls := .type "list_iterator", data := .fields #[.ref l, .int 0 0] }).get? D = none := hD; rw [hD2] at this; cases this
    refine h D h' tk n (F.keeps all) (fun q hq => ?_) (ints_filter I p) hD0
    rcases List.mem_cons.mp hq with rfl | hq
    · refine ⟨hn, ?_, ?_⟩
      · intro (e : D = L)
        obtain ⟨oL, _, _, e2, _⟩ := F.ns
        rw [← e, hD0] at e2; cases e2
      · show h₀.get? D = none
        cases e : h₀.get? D with
        | none => rfl
        | some ob => rw [F.keep _ _ e] at hD0; cases hD0
    · exact ⟨all _ _ (N q hq).1, (N q hq).2⟩
end
end Mine
end

section
open PySem PySem.W PyProof.Rows PySem.Builtin.Frozenset PySem.Calls
set_option Elab.async false
set_option maxRecDepth 100000
set_option maxHeartbeats 4000000
namespace Mine

section
variable {w : World} {A : Around} {E : Value → Shared → Prop} {s : Shared} {h₀ : Heap} {L a dx l l' y : Addr} {m : Str → Option Value} {news : List (Addr × Obj)} {gg : Obj → List (Addr × Obj)} {o od : Obj} {xs ys : List Int} {vs : List Value} {k : Int} {tk : Tok} {env : Env}

theorem inter_update_N {Q : Value → Shared → Prop} (hh : A.handled = none) (F : Fr h₀ L s.heap m) (X₀ : (hd.heap_39 w.params).In h₀) (N : News h₀ L s.heap news) (U : UpdF a o news gg) (O : OSet w o dx l xs) (hl : s.heap.IsList y vs.toArray) (hI : IntsAre vs ys) (hb : xs.length + 1 < scanBound)
    (h : ∀ h' tk' o' zs, Fr h₀ L h' m → News h₀ L h' (gg o') → OSet w o' dx l zs → (∀ k, k ∈ zs ↔ k ∈ xs ∧ k ∈ ys) → Q .none { s with heap := h', toks := tk' }) : wpAny (model PySem.Challenge.rw_ep5040_01.row.prog w) A (call (.builtin "set.intersection_update") [.ref a, .ref y]) Q E s :=
  call_inter_update hh (N _ (updF_mem U)).1 (O.setCls (X₀.keeps F.keep)) O.set hl hI hb fun h' tk' o' zs hk hg hh hS hz => let ⟨F', N'⟩ := upd_kept F N U hk hg; h h' tk' o' zs F' N' (O.head hh hS) hz

theorem diff_update_N {Q : Value → Shared → Prop} (hh : A.handled = none) (F : Fr h₀ L s.heap m) (X₀ : (hd.heap_39 w.params).In h₀) (N : News h₀ L s.heap news) (U : UpdF a o news gg) (O : OSet w o dx l xs) (hl : s.heap.IsList y vs.toArray) (hI : IntsAre vs ys) (hs : Small xs) (hb : xs.length ≤ 16)
    (h : ∀ h' tk' o' zs, Fr h₀ L h' m → News h₀ L h' (gg o') → OSet w o' dx l zs → (∀ k, k ∈ zs ↔ k ∈ xs ∧ k ∉ ys) → Q .none { s with heap := h', toks := tk' }) : wpAny (model PySem.Challenge.rw_ep5040_01.row.prog w) A (call (.builtin "set.difference_update") [.ref a, .ref y]) Q E s :=
  call_diff_update hh (N _ (updF_mem U)).1 (O.setCls (X₀.keeps F.keep)) O.set hl hI hs hb fun h' tk' o' zs hk hg hh hS hz => let ⟨F', N'⟩ := upd_kept F N U hk hg; h h' tk' o' zs F' N' (O.head hh hS) hz

theorem sym_update_N {Q : Value → Shared → Prop} (hh : A.handled = none) (F : Fr h₀ L s.heap m) (X₀ : (hd.heap_39 w.params).In h₀) (N : News h₀ L s.heap news) (U : UpdF a o news gg) (O : OSet w o dx l xs) (hl : s.heap.IsList y vs.toArray) (hI : IntsAre vs ys) (hb : xs.length + ys.length + 1 < scanBound)
    (h : ∀ h' tk' o' zs, Fr h₀ L h' m → News h₀ L h' (gg o') → OSet w o' dx l zs → (∀ k, k ∈ zs ↔ (k ∈ xs ∧ k ∉ ys) ∨ (k ∉ xs ∧ k ∈ ys)) → Q .none { s with heap := h', toks := tk' }) : wpAny (model PySem.Challenge.rw_ep5040_01.row.prog w) A (call (.builtin "set.symmetric_difference_update") [.ref a, .ref y]) Q E s :=
  call_sym_update hh (N _ (updF_mem U)).1 (O.setCls (X₀.keeps F.keep)) O.set hl hI hb fun h' tk' o' zs hk hg hh hS hz => let ⟨F', N'⟩ := upd_kept F N U hk hg; h h' tk' o' zs F' N' (O.head hh hS) hz

/-- a new row in the slot -/
theorem slot_N {v : Value} {Q : Unit → Shared → Prop} (F : Fr h₀ L s.heap m) (X₀ : (hd.heap_39 w.params).In h₀) (N : News h₀ L s.heap news) (U : UpdF a o news gg) (hd : (dx, dictObj) ∈ news) (hcl : o.cls = .ref 232) (hnc : notCls o = true) (hdict : o.dict = some dx) (hfr : o.isFreed = false)
    (h : ∀ h' tk', Fr h₀ L h' m → News h₀ L h' (gg { o with slots := (o.slots ++ Array.replicate (0 + 1 - o.slots.size) none).setIfInBounds 0 (some v) }) → Q () { s with heap := h', toks := tk' }) :
    wpAny (model PySem.Challenge.rw_ep5040_01.row.prog w) A (setAttr (.ref a) "_list" v) Q E s := by
  have ha := (N _ (updF_mem U)).1
  have I : InstAt s.heap a o 232 (some dictObj) := ⟨ha, hcl, hnc, by rw [hdict]; exact (N _ hd).1⟩
  refine set_list_S (X₀.keeps F.keep) I ?_
  have hg : (s.heap.update a fun o => { o with slots := (o.slots ++ Array.replicate (0 + 1 - o.slots.size) none).setIfInBounds 0 (some v) }).get? a = some { o with slots := (o.slots ++ Array.replicate (0 + 1 - o.slots.size) none).setIfInBounds 0 (some v) } := Heap.get?_update_self _ ha (by obtain ⟨c, d, dt, sl⟩ := o; cases dt <;> first | rfl | exact hfr)
  have hk : KeptBut [a] s.heap (s.heap.update a fun o => { o with slots := (o.slots ++ Array.replicate (0 + 1 - o.slots.size) none).setIfInBounds 0 (some v) }) := fun b ob hb e => by
    rw [Heap.get?_update_other _ _ (fun q => hb (by rw [q]; exact List.mem_singleton.mpr rfl))]; exact e
  obtain ⟨F', N'⟩ := upd_kept F N U hk hg
  exact h _ _ F' N'

theorem setlist_N {Q : Unit → Shared → Prop} (F : Fr h₀ L s.heap m) (X₀ : (hd.heap_39 w.params).In h₀) (N : News h₀ L s.heap news) (U : UpdF a o news gg) (hd : (dx, dictObj) ∈ news) (O : OSet w o dx l xs)
    (h : ∀ h' tk' o', Fr h₀ L h' m → News h₀ L h' (gg o') → OSet w o' dx l' xs → Q () { s with heap := h', toks := tk' }) :
    wpAny (model PySem.Challenge.rw_ep5040_01.row.prog w) A (setAttr (.ref a) "_list" (.ref l')) Q E s :=
  slot_N F X₀ N U hd O.cls O.set.notCls O.dict O.set.notFreed fun h' tk' F' N' => h h' tk' _ F' N' ⟨O.cls, O.dict, by rw [O.slots]; rfl, O.set⟩

theorem ne_none {h : Heap} {D b : Addr} {ob : Obj} (hD : h.get? D = none) (hb : h.get? b = some ob) : @Ne Nat D b := fun e => by
  have e' : D = b := e
  rw [e', hb] at hD; cases hD

theorem hb_stays {hb h g : Heap} {W : List (Addr × Obj)} (hk : hb.StaysIn h) (hf : ∀ p ∈ W, hb.get? p.1 = none) (hg : ∀ b o, h.get? b = some o → b ∉ W.map (·.1) → g.get? b = some o) : hb.StaysIn g := fun b o e =>
  hg b o (hk b o e) fun q => by
    obtain ⟨p, hp, rfl⟩ := List.mem_map.mp q
    rw [hf p hp] at e; cases e
theorem stays_none {hb g : Heap} {D : Addr} (hk : hb.StaysIn g) (h : g.get? D = none) : hb.get? D = none := by
  cases e : hb.get? D with
  | none => rfl
  | some ob => rw [hk _ _ e] at h; cases h

theorem none_of_g {s g : Heap} {W : List (Addr × Obj)} {D : Addr} (hg : ∀ b o, s.get? b = some o → b ∉ W.map (·.1) → g.get? b = some o) (h0 : g.get? D = none) (hW : ∀ p ∈ W, @Ne Nat p.1 D) : s.get? D = none := by
  cases e : s.get? D with
  | none => rfl
  | some ob =>
    have := hg D ob e (fun q => by obtain ⟨p, hp, e'⟩ := List.mem_map.mp q; exact hW p hp e')
    rw [h0] at this; cases this

theorem news_new {h₀ h h' : Heap} {L r : Addr} {m : Str → Option Value} {news : List (Addr × Obj)} {or : Obj} (F : Fr h₀ L h m) (N : News h₀ L h news) (k : KeptBut [] h h') (nr : h.get? r = none) (er : h'.get? r = some or) : News h₀ L h' ((r, or) :: news) := fun p hp => by
  rcases List.mem_cons.mp hp with rfl | hp
  · exact ⟨er, ne_none nr (F.ns.choose_spec.choose_spec.choose_spec.1), stays_none (fun b ob e => F.keep b ob e) nr⟩
  · exact ⟨k _ _ (by simp) (N p hp).1, (N p hp).2⟩

theorem OSet.setTo (O : OSet w o dx l xs) (hn : ys.Nodup) (h : ∀ k, k ∈ xs ↔ k ∈ ys) : OSet w o dx l ys := ⟨O.cls, O.dict, O.slots, O.set.same hn h⟩

/-- the test 'x in set' of a comprehension -/
theorem test_in {scope : Scope} {cl : List (Str × Addr)} {C c : Addr} {x y : Str} {p1 p2 p3 : Pos} {t : Tok} {s₃ : Shared} {m₃ : Str → Option Value} {E' : Value → Shared → Prop} {oc : Obj}
    (hS : SetO PySem.Challenge.rw_ep5040_01.row.prog w o xs) (ha : s₃.heap.get? a = some o) (hc : SetCls (model PySem.Challenge.rw_ep5040_01.row.prog w) s₃.heap o.cls) (hlk : Looks (model PySem.Challenge.rw_ep5040_01.row.prog w) s₃.heap (typeLookup o.cls "__contains__") (some (.builtin "set.__contains__"))) (hb : xs.length < scanBound)
    (hoc : s₃.heap.get? c = some oc) (hcell : oc.data = .cell (some (.ref a))) (hcl : cl.lookup y = some c)
    (hk : (compEnvC scope cl C env).scope.kind = .function) (hx : (compEnvC scope cl C env).kindOf x = some .local) (hy : (compEnvC scope cl C env).kindOf y = some .cell)
    (hns : s₃.heap.Ns C m₃) (hm : m₃ x = some (.int k t)) (hdx : (x == ("__debug__" : Str)) = false := by decide) (hdy : (y == ("__debug__" : Str)) = false := by decide) :
    wpAny (model PySem.Challenge.rw_ep5040_01.row.prog w) A (isTrue (.Compare (.Name x p1) [.In] [.Name y p2] p3) (compEnvC scope cl C env) (eval (.Compare (.Name x p1) [.In] [.Name y p2] p3) (compEnvC scope cl C env))) (fun ok s₄ => ok = decide (k ∈ xs) ∧ Keeps s₃ s₄) E' s₃ := by
  refine wpAny_isTrue_Compare1 ?_ 
  refine wpAny_Name (wpAny_loadName_local hk hx hns hm ?_) hdx
  refine wpAny_Name (wpAny_loadName_cell hk hy hcl ⟨oc, hoc, hcell⟩ ?_) hdy
  refine in_S ha hc hlk hS hb ?_
  exact wpAny_truthy_bool ⟨rfl, s₃.heap, _, rfl, fun _ _ e => e⟩

theorem test_notin {scope : Scope} {cl : List (Str × Addr)} {C c : Addr} {x y : Str} {p1 p2 p3 : Pos} {t : Tok} {s₃ : Shared} {m₃ : Str → Option Value} {E' : Value → Shared → Prop} {oc : Obj}
    (hS : SetO PySem.Challenge.rw_ep5040_01.row.prog w o xs) (ha : s₃.heap.get? a = some o) (hc : SetCls (model PySem.Challenge.rw_ep5040_01.row.prog w) s₃.heap o.cls) (hlk : Looks (model PySem.Challenge.rw_ep5040_01.row.prog w) s₃.heap (typeLookup o.cls "__contains__") (some (.builtin "set.__contains__"))) (hb : xs.length < scanBound)
    (hoc : s₃.heap.get? c = some oc) (hcell : oc.data = .cell (some (.ref a))) (hcl : cl.lookup y = some c)
    (hk : (compEnvC scope cl C env).scope.kind = .function) (hx : (compEnvC scope cl C env).kindOf x = some .local) (hy : (compEnvC scope cl C env).kindOf y = some .cell)
    (hns : s₃.heap.Ns C m₃) (hm : m₃ x = some (.int k t)) (hdx : (x == ("__debug__" : Str)) = false := by decide) (hdy : (y == ("__debug__" : Str)) = false := by decide) :
    wpAny (model PySem.Challenge.rw_ep5040_01.row.prog w) A (isTrue (.Compare (.Name x p1) [.NotIn] [.Name y p2] p3) (compEnvC scope cl C env) (eval (.Compare (.Name x p1) [.NotIn] [.Name y p2] p3) (compEnvC scope cl C env))) (fun ok s₄ => ok = !decide (k ∈ xs) ∧ Keeps s₃ s₄) E' s₃ := by
  refine wpAny_isTrue_Compare1 ?_ 
  refine wpAny_Name (wpAny_loadName_local hk hx hns hm ?_) hdx
  refine wpAny_Name (wpAny_loadName_cell hk hy hcl ⟨oc, hoc, hcell⟩ ?_) hdy
  refine notin_S ha hc hlk hS hb ?_
  exact wpAny_truthy_bool ⟨rfl, s₃.heap, _, rfl, fun _ _ e => e⟩

/-- a call of a builtin with a star at its end -/
theorem callWith_starB {f : Value} {pos : Pos} {Q : Value → Shared → Prop} {e : Expr} {rest : List Expr} (hk : ∀ h, Looks (model PySem.Challenge.rw_ep5040_01.row.prog w) h (keeperOf f) .machine)
    (h : wpAny (model PySem.Challenge.rw_ep5040_01.row.prog w) A (spliced (backTo pos (starEach (e :: rest) env))) (fun vs s₁ => wpAny (model PySem.Challenge.rw_ep5040_01.row.prog w) A (call f vs) Q E s₁) E s)
    (he : starEach (e :: rest) env = (false, eval e env) :: starEach rest env) (hst : (backTo pos (starEach rest env)).any (·.1) = true) : wpAny (model PySem.Challenge.rw_ep5040_01.row.prog w) A (callWith pos f [] (backTo pos (starEach (e :: rest) env)) []) Q E s := by
  rw [he] at h ⊢
  exact ks_call (P := fun _ => True) (by show (false || (backTo pos (starEach rest env)).any (·.1)) = true; rw [hst]; rfl) (fun h _ => ⟨_, .inr (.inl rfl), hk h⟩) (evalArgs_plain (wpAny_mono h (fun vs s₁ h₁ => ⟨trivial, h₁⟩) fun _ _ x => x))
end
end Mine
end

section
open PySem PySem.W PyProof.Rows PySem.Builtin.Frozenset PySem.Calls
set_option Elab.async false
set_option maxRecDepth 100000
set_option maxHeartbeats 4000000
namespace Mine

namespace HF
theorem slot_wget : Slot "wrapper_descriptor" "__get__" "wrapper_descriptor.__get__" :=
  .of (owner := "wrapper_descriptor") (n := "__get__") (by rw [typeLookup_type, builtinLookup_eq_fast]; kernel_rfl) (by decide +kernel) (by decide +kernel) (by decide +kernel)
    (by first | exact .inl (by decide +kernel) | exact .inr (by decide +kernel)) (by rw [isSubtype_type]; kernel_rfl)
theorem wset : typeLookup (.type "wrapper_descriptor") "__set__" = pure none := by rw [typeLookup_type, builtinLookup_eq_fast]; kernel_rfl
theorem wdel : typeLookup (.type "wrapper_descriptor") "__delete__" = pure none := by rw [typeLookup_type, builtinLookup_eq_fast]; kernel_rfl
theorem entry_wget : entryFor table "wrapper_descriptor.__get__" = some Builtin.«wrapper_descriptor.__get__» := entryFor_of_tree (by kernel_rfl)
theorem args_wget (a b c : Value) : argsOk "wrapper_descriptor.__get__" ⟨[a, b, c], []⟩ := by unfold argsOk; kernel_rfl
theorem lk_list_len : typeLookup (.type "list") "__len__" = pure (some (.builtin "list.__len__")) := by rw [typeLookup_type, builtinLookup_eq_fast]; kernel_rfl
theorem ty_list_len : typeOf (.builtin "list.__len__") = pure (.type "wrapper_descriptor") := by kernel_rfl
theorem lk_list_ga : typeLookup (.type "list") "__getattribute__" = pure (some (.builtin "list.__getattribute__")) := by rw [typeLookup_type, builtinLookup_eq_fast]; kernel_rfl
theorem owner_list_len : (".".intercalate ("list.__len__".cutAt '.').dropLast) = "list" := by
  have e0 : "list.__len__".cutAt '.' = ["list", "__len__"] := by first | rfl | decide +kernel
  rw [e0]; decide +kernel
theorem sub_list_len : isSubtype (.type "list") (.type (".".intercalate ("list.__len__".cutAt '.').dropLast)) = pure true := by
  rw [owner_list_len, isSubtype_type]; kernel_rfl
end HF
section
variable {prog : Program} {w : World} {A : Around} {E : Value → Shared → Prop} {h : Heap} {g : Array GenState} {d : Drawn} {t : Nat} {os : OsState} {a : Addr} {its : Array Value} {n : Nat}

theorem len_get_list {R : Result → Shared → Prop} (hx : h.get? a = some (PySem.W.listOf its n)) (hq : ∀ v h', KeptBut [] h h' → R (.ok (.ret (.ref v))) ⟨h', g, d, t, os⟩) :
    codeAny (model prog w) A (.call (.builtin "wrapper_descriptor.__get__") ⟨[.builtin "list.__len__", .ref a, .type "list"], []⟩) R ⟨h, g, d, t, os⟩ := by
  have hT : (⟨h, g, d, t, os⟩ : Shared).TypeIs (.ref a) "list" := ⟨_, hx, rfl⟩
  have hT5 : (⟨h, g, d, t, os⟩ : Shared).TypeIs (.builtin "list.__len__") "wrapper_descriptor" := HF.ty_list_len
  have f8 := HF.sub_list_len
  refine codeAny_call_builtin HF.slot_wget.plain HF.entry_wget (HF.slot_wget.check _ _ _ _ _ _ _ _ hT5 (HF.args_wget _ _ _) ?_)
  repeat (any_goals (first | assumption | wp_step))
  exact hq _ _ fun b ob _ e => Heap.get?_push_of_some _ e

theorem len_entry_list {tk : Tok} {Q : Fin → Shared → Prop} (hx : h.get? a = some (PySem.W.listOf its n)) (hq : ∀ v h', KeptBut [] h h' → Q (.done (.ret (.ref v))) ⟨h', g, d, t, os⟩) :
    wpAny (model prog w) A (Builtin.«object.__getattribute__» ⟨[.ref a, .str "__len__" tk], []⟩) Q E ⟨h, g, d, t, os⟩ := by
  have hT : (⟨h, g, d, t, os⟩ : Shared).TypeIs (.ref a) "list" := ⟨_, hx, rfl⟩
  have hT5 : (⟨h, g, d, t, os⟩ : Shared).TypeIs (.builtin "list.__len__") "wrapper_descriptor" := HF.ty_list_len
  have f4 := HF.lk_list_len
  have f5 := HF.ty_list_len
  have f6 := HF.slot_wget.lookup
  have f7 := HF.wset
  have f8 := HF.wdel
  repeat (any_goals (first | assumption | wp_step))
  refine len_get_list hx fun v h' hk => ?_
  exact wpAny_pure (hq v h' hk)

theorem len_by_list {tk : Tok} {Q : Value → Shared → Prop} (hx : h.get? a = some (PySem.W.listOf its n)) (hq : ∀ v h', KeptBut [] h h' → Q (.ref v) ⟨h', g, d, t, os⟩) : wpAny (model prog w) A (getAttrBy (.ref a) (.str "__len__" tk) false) Q E ⟨h, g, d, t, os⟩ := by
  have hT : (⟨h, g, d, t, os⟩ : Shared).TypeIs (.ref a) "list" := ⟨_, hx, rfl⟩
  have f2 := F.slot_list_getattribute.lookup
  have f3 := F.slot_list_getattribute.bind (.ref a)
  repeat (any_goals (first | assumption | wp_step))
  refine codeAny_call_builtin F.slot_list_getattribute.plain F.entry_list_ga (F.slot_list_getattribute.check _ _ _ _ _ _ _ _ (show (⟨h, g, d, t, os⟩ : Shared).TypeIs (.ref a) "list" from ⟨_, hx, rfl⟩) (F.args_list_getattribute_2 _ _) (len_entry_list hx fun v h' hk => ?_))
  repeat (any_goals (first | assumption | wp_step))
  exact hq v h' hk

theorem hasattr_check (a : Addr) (tk : Tok) : checkBuiltinCall "hasattr" ⟨[.ref a, .str "__len__" tk], []⟩ = pure () := by kernel_rfl
theorem hasattr_entry : entryFor table "hasattr" = some Builtin.«hasattr» := entryFor_of_tree (by kernel_rfl)
theorem hasattr_plain : plainId "hasattr" = true := by decide +kernel
theorem hasattr_len {tk : Tok} {Q : Value → Shared → Prop} (hx : h.get? a = some (PySem.W.listOf its n)) (hq : ∀ h' t', KeptBut [] h h' → Q (.bool true) ⟨h', g, d, t', os⟩) : wpAny (model prog w) A (call (.builtin "hasattr") [.ref a, .str "__len__" tk]) Q E ⟨h, g, d, t, os⟩ := by
  have hT : (⟨h, g, d, t, os⟩ : Shared).TypeIs (.ref a) "list" := ⟨_, hx, rfl⟩
  have f4 := HF.lk_list_len
  have f2 := F.slot_list_getattribute.lookup
  refine wpAny_call ?_
  refine codeAny_call_builtin hasattr_plain hasattr_entry ?_
  rw [hasattr_check]
  refine wpAny_pure ?_
  have f3 := F.slot_list_getattribute.bind (.ref a)
  have f5 : isSubtype (.type "list") (.type "module") = pure false := by rw [isSubtype_type]; kernel_rfl
  repeat (any_goals (first | assumption | wp_step))
  refine codeAny_call_builtin F.slot_list_getattribute.plain F.entry_list_ga (F.slot_list_getattribute.check _ _ _ _ _ _ _ _ (show (⟨h, g, d, t, os⟩ : Shared).TypeIs (.ref a) "list" from ⟨_, hx, rfl⟩) (F.args_list_getattribute_2 _ _) (len_entry_list hx fun v h' hk => ?_))
  have hq' := hq h' t hk
  repeat (any_goals (first | assumption | wp_step))
end
end Mine
end

section
open PySem PySem.W PyProof.Rows PySem.Builtin.Frozenset PySem.Calls
set_option Elab.async false
set_option maxRecDepth 100000
set_option maxHeartbeats 4000000
namespace Mine

section
variable {prog : Program} {w : World} {A : Around} {E : Value → Shared → Prop} {s : Shared} {h₀ : Heap} {L D b : Addr} {m : Str → Option Value} {news : List (Addr × Obj)} {gg : Obj → List (Addr × Obj)} {its its2 : List Value} {n n2 : Nat}
theorem no_radd : typeLookup (.type "list") (dunderR "add") = pure none := noR_list_add
theorem seq_iadd : seqSlot? (.type "list") (dunderI "add") = pure (some (.builtin "list.__iadd__")) := PySem.seqSlot_of PySem.F.slot_list_iadd.lookup (by decide +kernel)
theorem fill_iadd : fillsInplaceSlot (.type "list") "add" (Operator.Add == .Add) = pure false := by
  unfold fillsInplaceSlot
  show (typeLookup (.type "list") (dunderI "add") >>= fun fi => pure (fi.isSome && !isSeqSlot fi)) = pure false
  rw [PySem.F.slot_list_iadd.lookup]
  have e : isSeqSlot (some (Value.builtin "list.__iadd__")) = true := by decide +kernel
  show (pure (true && !isSeqSlot (some (Value.builtin "list.__iadd__"))) : Sem Bool) = pure false
  rw [e]; rfl

theorem iadd_N {Q : Value → Shared → Prop} (F : Fr h₀ L s.heap m) (N : News h₀ L s.heap news) (hb : (b, PySem.W.listOf its2.toArray n2) ∈ news) (U : UpdF D (PySem.W.listOf its.toArray n) news gg) (hz : its.length + its2.length < 200)
    (h : ∀ h' k, Fr h₀ L h' m → News h₀ L h' (gg (PySem.W.listOf (its ++ its2).toArray k)) → Q (.ref D) { s with heap := h' }) : wpAny (model prog w) A (inplaceOp .Add (.ref D) (.ref b)) Q E s := by
  have hD := (N _ (updF_mem U)).1
  have hB := (N _ hb).1
  have ha : s.TypeIs (.ref D) "list" := ⟨_, hD, rfl⟩
  have hb' : s.TypeIs (.ref b) "list" := ⟨_, hB, rfl⟩
  unfold inplaceOp
  refine wpAny_holding ?_
  refine wpAny_bind (wpAny_typeOf ha (wpAny_bind (wpAny_of_eq fill_iadd ?_)))
  show wpAny _ A (if false = true then _ else _) Q E s
  rw [if_neg Bool.false_ne_true]
  refine wpAny_bind (wpAny_binaryOp1_none (nm := "add") ha hb' noFill_list_add ?_)
  refine wpAny_bind (wpAny_of_eq seq_iadd ?_)
  refine wpAny_bind (wpAny_rule ?_)
  have e1 : its.toArray.size = its.length := by simp
  have e2 : its2.toArray.size = its2.length := by simp
  refine call_meets PySem.F.slot_list_iadd ha PySem.F.entry_list_iadd (PySem.F.args_list_iadd_2 _ _) (PySem.AutoSeq1.list___iadd___list_list_0 D its.toArray n b its2.toArray n2 ?_ (by rw [e1, sizeLine_eq]; omega) (by rw [e1, e2, sizeLine_eq]; omega)) ⟨hD, hB, ?_⟩
  · rw [e1, e2]
    have : Builtin.List.listTooLong (its.length + its2.length) = false := by unfold Builtin.List.listTooLong; simp only [decide_eq_false_iff_not, Nat.not_lt]; have := sizeLine_eq; omega
    rw [this]; simp
  · have q := PySem.IsL.update hD (fun x => x ++ its2.toArray)
    have hk : KeptBut [D] s.heap (s.heap.update D (Obj.mapSeq fun x => x ++ its2.toArray)) := fun c ob hc e => by
      rw [Heap.get?_update_other _ _ (fun q => hc (by rw [q]; exact List.mem_singleton.mpr rfl))]; exact e
    have e3 : its.toArray ++ its2.toArray = (its ++ its2).toArray := by simp
    have q' : (s.heap.update D (Obj.mapSeq fun x => x ++ its2.toArray)).get? D = some (PySem.W.listOf (its ++ its2).toArray (if (its.toArray ++ its2.toArray).size = its.toArray.size then n else n + 1)) := by
      rw [← e3]; simpa using q
    obtain ⟨F', N'⟩ := upd_kept F N U hk q'
    exact h _ _ F' N'
end
end Mine
end

section
open PySem PySem.W PyProof.Rows
theorem Mine.rs_A1 {M : Model} {A : Around} {s : Shared} {v : Value} {Q : Bool → Shared → Prop} {E : Value → Shared → Prop} (h : wpAny M A (truthy v) Q E s) : wpAny M A (truthy v) Q E s := by
  first | (walk1; fail) | exact h
end

section
open PySem PySem.W PyProof.Rows PySem.Builtin.Frozenset PySem.Calls
set_option Elab.async false
set_option maxRecDepth 100000
set_option maxHeartbeats 4000000
namespace Mine

local macro_rules | `(tactic| k_inst) => `(tactic| (refine' OSet.inst ?O ?N ?h1 ?h2; (case N => k_asm); (case O => k_asm); (case h1 => k_mem); (case h2 => k_mem)))
local macro_rules | `(tactic| walk_at "compareOp NotIn int ref") => `(tactic| (k_here; k_dflt (refine' notin_N ?F ?X ?N ?m ?O ?b ?_; (case F => k_asm); (case X => k_asm); (case N => k_asm); (case O => k_asm); (case m => k_mem); (case b => (first | assumption | (unfold scanBound; omega))))))
local macro_rules | `(tactic| walk_at "compareOp In int ref") => `(tactic| (k_here; k_dflt (refine' in_N ?F ?X ?N ?m ?O ?b ?_; (case F => k_asm); (case X => k_asm); (case N => k_asm); (case O => k_asm); (case m => k_mem); (case b => (first | assumption | (unfold scanBound; omega))))))
local macro_rules | `(tactic| walk_at "getAttr ref") => `(tactic| (k_here; (with_reducible show wpAny _ _ (getAttr (Value.ref _) (Str.ofString "_list") _) _ _ _); k_dflt (refine' list_N ?F ?X ?N ?m ?O ?n ?_; (case F => k_asm); (case X => k_asm); (case N => k_asm); (case O => k_asm); (case m => k_mem); (case n => k_mem))))
local macro_rules | `(tactic| walk_at "call builtin:set.add") => `(tactic| (k_here; (with_reducible show wpAny _ _ (call (Value.builtin "set.add") [Value.ref _, Value.int _ _]) _ _ _); k_dflt (refine' add_N ?F ?X ?N ?U ?O ?b ?_; (case F => k_asm); (case X => k_asm); (case N => k_asm); (case O => k_asm); (case U => k_updF); (case b => (first | assumption | (unfold scanBound; omega)))); intro h' tk' o' F' N' O'; (try dsimp only at N')))
local macro_rules | `(tactic| walk_at "getMethod") => `(tactic| (k_here; (with_reducible show wpAny _ _ (getMethod (Value.type "set") _ _) _ _ _); (with_reducible refine' getMethod_setT ?F ?X ?e ?h ?_); k_dflt ((case F => k_asm); (case X => k_asm); (case e => first | with_reducible exact k_set_add | with_reducible exact k_set_remove | with_reducible exact k_set_update | with_reducible exact k_set_init | with_reducible exact k_set_inter | with_reducible exact k_set_diff | with_reducible exact k_set_interu | with_reducible exact k_set_diffu | with_reducible exact k_set_symu); (case h => rfl))))
local macro_rules | `(tactic| walk_at "call builtin:set.remove") => `(tactic| (k_here; (with_reducible show wpAny _ _ (call (Value.builtin "set.remove") [Value.ref _, Value.int _ _]) _ _ _); k_dflt (refine' remove_N ?F ?X ?N ?U ?O ?b ?k ?_; (case F => k_asm); (case X => k_asm); (case N => k_asm); (case O => k_asm); (case U => k_updF); (case b => (first | assumption | (unfold scanBound; omega))); (case k => assumption)); intro h' tk' o' F' N' O'; (try dsimp only at N')))
local macro_rules | `(tactic| walk_at "eval Call Attribute") => `(tactic| (k_here; k_dflt (refine methodCall_star (by rfl) (by rfl) ?_)))
local macro_rules | `(tactic| walk_at "getAttr") => `(tactic| (k_here; (with_reducible show wpAny _ _ (getAttr (Value.type "set") _ _) _ _ _); k_dflt (refine' getAttr_setT ?X ?e ?h ?_; (case X => k_in); (case e => first | with_reducible exact k_set_inter | with_reducible exact k_set_diff | with_reducible exact k_set_interu | with_reducible exact k_set_diffu); (case h => rfl))))
local macro_rules | `(tactic| walk_at "callWith") => `(tactic| (k_here; (with_reducible show wpAny _ _ (callWith _ (Value.builtin _) [] _ []) _ _ _); k_dflt (refine' callWith_starB ?b ?_ ?a ?c; (case a => rfl); (case c => rfl); (case b => exact fun _ => Looks.of_pure rfl))))

theorem add_ct {w : World} {s₀ : Shared} {mg mb : Str → Option Value} {hb : Heap} {A : Around} {s : Shared} {R : Result → Shared → Prop} {a dx l : Addr} {xs : List Int} {v : Int} {tv : Tok} (Y : Ct w s₀ mg mb hb A s 900) (O : OSAt w hb s.heap a dx l xs) (hbd : xs.length < 100)
    (h : ∀ h' tk', KeptBut [a, l] s.heap h' → OSAt w hb h' a dx l (addL xs v) → R (.ok (.ret .none)) { s with heap := h', toks := tk' }) :
    codeAny (model PySem.Challenge.rw_ep5040_01.row.prog w) A (.call (.ref 65) ⟨[.ref a, .int v tv], []⟩) R s := by
  obtain ⟨hadx, hal, hdl⟩ := O.ne
  obtain ⟨⟨o, vs, n, ha, hl, O, I⟩, hdx, ba, bd, bl⟩ := O
  have HW : ∀ p ∈ [(a, o), (dx, dictObj), (l, PySem.W.listOf vs.toArray n)], s.heap.get? p.1 = some p.2 := by simp [ha, hdx, hl]
  have HF : ∀ p ∈ [(a, o), (dx, dictObj), (l, PySem.W.listOf vs.toArray n)], hb.get? p.1 = none := by simp [ba, bd, bl]
  have KX0 := Y.C.K
  revert KX0
  k_fill
  intro KX0
  refine enter (f := 65) (binds := [(Str.ofString "self", .ref a), (Str.ofString "element", .int v tv)]) [(a, o), (dx, dictObj), (l, PySem.W.listOf vs.toArray n)] Y.C Y.k HW HF (Nat.lt_trans Y.depth (by unfold recursionLimit; decide)) rfl (by k_is) (BindsTo.of_eq rfl) (locs rfl) ?_
  intro g L' h₁ hg Cg hsz hL F N
  have KX := Cg.K
  have T := Cg.T
  have hh := Y.hand
  clear KX0
  k_steps
  · have e : addL xs v = xs := addL_of_mem (by assumption)
    exact h _ _ (fin3 hg F hdx (N.get (by k_mem)) (by simp)) (.mk' (N.get (by k_mem)) (N.get (by k_mem)) (N.get (by k_mem)) (by rw [e]; exact O) (by rw [e]; exact I) ba bd bl)
  · rename_i hv _ _ _ _ h' _ o' F' N' O'
    have e : addL xs v = xs ++ [v] := addL_of_not hv
    have N2 : News g L' h' [(a, o'), (dx, dictObj), (l, PySem.W.listOf (vs ++ [Value.int v tv]).toArray (n + 1))] := by simpa using N'
    exact h _ _ (fin3 hg F' hdx (N2.get (by k_mem)) (by simp)) (.mk' (N2.get (by k_mem)) (N2.get (by k_mem)) (N2.get (by k_mem)) O' (by rw [e]; exact IntsAre.append I (.cons v tv .nil)) ba bd bl)
end Mine
end

section
open PySem PySem.W PyProof.Rows
theorem Mine.rs_A2 {M : Model} {A : Around} {s : Shared} {v : Value} {Q : Bool → Shared → Prop} {E : Value → Shared → Prop} (h : wpAny M A (truthy v) Q E s) : wpAny M A (truthy v) Q E s := by
  first | (walk1; fail) | exact h
end

section
open PySem PySem.W PyProof.Rows PySem.Builtin.Frozenset PySem.Calls
set_option Elab.async false
set_option maxRecDepth 100000
set_option maxHeartbeats 4000000
namespace Mine

local macro_rules | `(tactic| k_inst) => `(tactic| (refine' OSet.inst ?O ?N ?h1 ?h2; (case N => k_asm); (case O => k_asm); (case h1 => k_mem); (case h2 => k_mem)))
local macro_rules | `(tactic| walk_at "compareOp NotIn int ref") => `(tactic| (k_here; k_dflt (refine' notin_N ?F ?X ?N ?m ?O ?b ?_; (case F => k_asm); (case X => k_asm); (case N => k_asm); (case O => k_asm); (case m => k_mem); (case b => (first | assumption | (unfold scanBound; omega))))))
local macro_rules | `(tactic| walk_at "compareOp In int ref") => `(tactic| (k_here; k_dflt (refine' in_N ?F ?X ?N ?m ?O ?b ?_; (case F => k_asm); (case X => k_asm); (case N => k_asm); (case O => k_asm); (case m => k_mem); (case b => (first | assumption | (unfold scanBound; omega))))))
local macro_rules | `(tactic| walk_at "getAttr ref") => `(tactic| (k_here; (with_reducible show wpAny _ _ (getAttr (Value.ref _) (Str.ofString "_list") _) _ _ _); k_dflt (refine' list_N ?F ?X ?N ?m ?O ?n ?_; (case F => k_asm); (case X => k_asm); (case N => k_asm); (case O => k_asm); (case m => k_mem); (case n => k_mem))))
local macro_rules | `(tactic| walk_at "call builtin:set.add") => `(tactic| (k_here; (with_reducible show wpAny _ _ (call (Value.builtin "set.add") [Value.ref _, Value.int _ _]) _ _ _); k_dflt (refine' add_N ?F ?X ?N ?U ?O ?b ?_; (case F => k_asm); (case X => k_asm); (case N => k_asm); (case O => k_asm); (case U => k_updF); (case b => (first | assumption | (unfold scanBound; omega)))); intro h' tk' o' F' N' O'; (try dsimp only at N')))
local macro_rules | `(tactic| walk_at "getMethod") => `(tactic| (k_here; (with_reducible show wpAny _ _ (getMethod (Value.type "set") _ _) _ _ _); (with_reducible refine' getMethod_setT ?F ?X ?e ?h ?_); k_dflt ((case F => k_asm); (case X => k_asm); (case e => first | with_reducible exact k_set_add | with_reducible exact k_set_remove | with_reducible exact k_set_update | with_reducible exact k_set_init | with_reducible exact k_set_inter | with_reducible exact k_set_diff | with_reducible exact k_set_interu | with_reducible exact k_set_diffu | with_reducible exact k_set_symu); (case h => rfl))))
local macro_rules | `(tactic| walk_at "call builtin:set.remove") => `(tactic| (k_here; (with_reducible show wpAny _ _ (call (Value.builtin "set.remove") [Value.ref _, Value.int _ _]) _ _ _); k_dflt (refine' remove_N ?F ?X ?N ?U ?O ?b ?k ?_; (case F => k_asm); (case X => k_asm); (case N => k_asm); (case O => k_asm); (case U => k_updF); (case b => (first | assumption | (unfold scanBound; omega))); (case k => assumption)); intro h' tk' o' F' N' O'; (try dsimp only at N')))
local macro_rules | `(tactic| walk_at "eval Call Attribute") => `(tactic| (k_here; k_dflt (refine methodCall_star (by rfl) (by rfl) ?_)))
local macro_rules | `(tactic| walk_at "getAttr") => `(tactic| (k_here; (with_reducible show wpAny _ _ (getAttr (Value.type "set") _ _) _ _ _); k_dflt (refine' getAttr_setT ?X ?e ?h ?_; (case X => k_in); (case e => first | with_reducible exact k_set_inter | with_reducible exact k_set_diff | with_reducible exact k_set_interu | with_reducible exact k_set_diffu); (case h => rfl))))
local macro_rules | `(tactic| walk_at "callWith") => `(tactic| (k_here; (with_reducible show wpAny _ _ (callWith _ (Value.builtin _) [] _ []) _ _ _); k_dflt (refine' callWith_starB ?b ?_ ?a ?c; (case a => rfl); (case c => rfl); (case b => exact fun _ => Looks.of_pure rfl))))

theorem insert_ct {w : World} {s₀ : Shared} {mg mb : Str → Option Value} {hb : Heap} {A : Around} {s : Shared} {R : Result → Shared → Prop} {a dx l : Addr} {xs : List Int} {v p : Int} {tv tp : Tok} (Y : Ct w s₀ mg mb hb A s 900) (O : OSAt w hb s.heap a dx l xs) (hbd : xs.length < 100) (hp : -10 ≤ p ∧ p ≤ 10)
    (h : ∀ h' tk', KeptBut [a, l] s.heap h' → OSAt w hb h' a dx l (if v ∈ xs then xs else insL xs p v) → R (.ok (.ret .none)) { s with heap := h', toks := tk' }) :
    codeAny (model PySem.Challenge.rw_ep5040_01.row.prog w) A (.call (.ref 86) ⟨[.ref a, .int p tp, .int v tv], []⟩) R s := by
  obtain ⟨hadx, hal, hdl⟩ := O.ne
  obtain ⟨⟨o, vs, n, ha, hl, O, I⟩, hdx, ba, bd, bl⟩ := O
  have HW : ∀ p ∈ [(a, o), (dx, dictObj), (l, PySem.W.listOf vs.toArray n)], s.heap.get? p.1 = some p.2 := by simp [ha, hdx, hl]
  have HF : ∀ p ∈ [(a, o), (dx, dictObj), (l, PySem.W.listOf vs.toArray n)], hb.get? p.1 = none := by simp [ba, bd, bl]
  have KX0 := Y.C.K
  revert KX0
  k_fill
  intro KX0
  refine enter (f := 86) (binds := [(Str.ofString "self", .ref a), (Str.ofString "pos", .int p tp), (Str.ofString "element", .int v tv)]) [(a, o), (dx, dictObj), (l, PySem.W.listOf vs.toArray n)] Y.C Y.k HW HF (Nat.lt_trans Y.depth (by unfold recursionLimit; decide)) rfl (by k_is) (BindsTo.of_eq rfl) (locs rfl) ?_
  intro g L' h₁ hg Cg hsz hL F N
  have KX := Cg.K
  have T := Cg.T
  have hh := Y.hand
  clear KX0
  k_steps
  · rename v ∈ xs => hv
    exact h _ _ (fin3 hg F hdx (N.get (by k_mem)) (by simp)) (.mk' (N.get (by k_mem)) (N.get (by k_mem)) (N.get (by k_mem)) (by rw [if_pos hv]; exact O) (by rw [if_pos hv]; exact I) ba bd bl)
  · rename ¬ v ∈ xs => hv
    have hz := I.length
    have hf : Builtin.List.listFitsIndex p = true := by unfold Builtin.List.listFitsIndex; simp; omega
    refine kl_insert F N (n := n) hf rfl (by k_upd) (by simp; rw [sizeLine_eq]; omega) ?_
    intro h' F' N'
    clear F N
    k_steps
    rename OSet w _ dx l (addL xs v) => O''
    rename News g L' _ _ => N''
    rename Fr g L' _ _ => F''
    refine h _ _ (fin3 hg F'' hdx (N''.get (by k_mem)) (by simp)) (.mk' (N''.get (by k_mem)) (N''.get (by k_mem)) (N''.get (by k_mem)) ?_ ?_ ba bd bl)
    · rw [if_neg hv]
      rw [addL_of_not hv] at O''
      exact O''.perm (insL_perm xs p v).symm
    · rw [if_neg hv]
      simpa using ints_ins I p v tv

theorem discard_ct {w : World} {s₀ : Shared} {mg mb : Str → Option Value} {hb : Heap} {A : Around} {s : Shared} {R : Result → Shared → Prop} {a dx l : Addr} {xs : List Int} {v : Int} {tv : Tok} (Y : Ct w s₀ mg mb hb A s 900) (O : OSAt w hb s.heap a dx l xs) (hbd : xs.length < 100)
    (h : ∀ h' tk', KeptBut [a, l] s.heap h' → OSAt w hb h' a dx l (xs.erase v) → R (.ok (.ret .none)) { s with heap := h', toks := tk' }) :
    codeAny (model PySem.Challenge.rw_ep5040_01.row.prog w) A (.call (.ref 93) ⟨[.ref a, .int v tv], []⟩) R s := by
  obtain ⟨hadx, hal, hdl⟩ := O.ne
  obtain ⟨⟨o, vs, n, ha, hl, O, I⟩, hdx, ba, bd, bl⟩ := O
  have HW : ∀ p ∈ [(a, o), (dx, dictObj), (l, PySem.W.listOf vs.toArray n)], s.heap.get? p.1 = some p.2 := by simp [ha, hdx, hl]
  have HF : ∀ p ∈ [(a, o), (dx, dictObj), (l, PySem.W.listOf vs.toArray n)], hb.get? p.1 = none := by simp [ba, bd, bl]
  have KX0 := Y.C.K
  revert KX0
  k_fill
  intro KX0
  refine enter (f := 93) (binds := [(Str.ofString "self", .ref a), (Str.ofString "element", .int v tv)]) [(a, o), (dx, dictObj), (l, PySem.W.listOf vs.toArray n)] Y.C Y.k HW HF (Nat.lt_trans Y.depth (by unfold recursionLimit; decide)) rfl (by k_is) (BindsTo.of_eq rfl) (locs rfl) ?_
  intro g L' h₁ hg Cg hsz hL F N
  have KX := Cg.K
  have T := Cg.T
  have hh := Y.hand
  clear KX0
  k_steps
  · rename v ∈ xs => hv
    have hz := I.length
    obtain ⟨j, q, e1, e2, e3⟩ := ints_at I hv
    rename OSet w _ dx l (xs.erase v) => O''
    rename News g L' _ _ => N''
    rename Fr g L' _ _ => F''
    refine kf_remove F'' N'' (n := n) (by simpa using ints_kf I) (by simpa using e1) (by simpa using e2) (by k_upd) (by simp; rw [sizeLine_eq]; omega) ?_
    intro h' F' N'
    clear F'' N'' F N
    k_steps
    exact h _ _ (fin3 hg F' hdx (N'.get (by k_mem)) (by simp)) (.mk' (N'.get (by k_mem)) (N'.get (by k_mem)) (N'.get (by k_mem)) O'' e3 ba bd bl)
  · rename ¬ v ∈ xs => hv
    have e : xs.erase v = xs := List.erase_of_not_mem hv
    exact h _ _ (fin3 hg F hdx (N.get (by k_mem)) (by simp)) (.mk' (N.get (by k_mem)) (N.get (by k_mem)) (N.get (by k_mem)) (by rw [e]; exact O) (by rw [e]; exact I) ba bd bl)

theorem pop_ct {w : World} {s₀ : Shared} {mg mb : Str → Option Value} {hb : Heap} {A : Around} {s : Shared} {R : Result → Shared → Prop} {a dx l : Addr} {xs : List Int} (Y : Ct w s₀ mg mb hb A s 900) (O : OSAt w hb s.heap a dx l xs) (hbd : xs.length < 100) (hpos : 0 < xs.length)
    (h : ∀ h' tk' t, KeptBut [a, l] s.heap h' → OSAt w hb h' a dx l xs.dropLast → R (.ok (.ret (.int (xs.getLastD 0) t))) { s with heap := h', toks := tk' }) :
    codeAny (model PySem.Challenge.rw_ep5040_01.row.prog w) A (.call (.ref 79) ⟨[.ref a], []⟩) R s := by
  obtain ⟨hadx, hal, hdl⟩ := O.ne
  obtain ⟨⟨o, vs, n, ha, hl, O, I⟩, hdx, ba, bd, bl⟩ := O
  have HW : ∀ p ∈ [(a, o), (dx, dictObj), (l, PySem.W.listOf vs.toArray n)], s.heap.get? p.1 = some p.2 := by simp [ha, hdx, hl]
  have HF : ∀ p ∈ [(a, o), (dx, dictObj), (l, PySem.W.listOf vs.toArray n)], hb.get? p.1 = none := by simp [ba, bd, bl]
  have KX0 := Y.C.K
  revert KX0
  k_fill
  intro KX0
  refine enter (f := 79) (binds := [(Str.ofString "self", .ref a)]) [(a, o), (dx, dictObj), (l, PySem.W.listOf vs.toArray n)] Y.C Y.k HW HF (Nat.lt_trans Y.depth (by unfold recursionLimit; decide)) rfl (by k_is) (BindsTo.of_eq rfl) (locs rfl) ?_
  intro g L' h₁ hg Cg hsz hL F N
  have KX := Cg.K
  have T := Cg.T
  have hh := Y.hand
  clear KX0
  have hz := I.length
  have hz2 : 0 < vs.length := by omega
  have hlast : xs = xs.dropLast ++ [xs.getLastD 0] := by
    have hne : xs ≠ [] := by intro e; rw [e] at hpos; simp at hpos
    rw [List.getLastD_eq_getLast?, List.getLast?_eq_some_getLast hne]
    exact (List.dropLast_concat_getLast hne).symm
  have hmem : xs.getLastD 0 ∈ xs := by rw [hlast]; simp
  have hperm : (xs.erase (xs.getLastD 0)).Perm xs.dropLast := by
    have p : (xs.getLastD 0 :: xs.dropLast).Perm xs := by
      have := (List.perm_append_singleton (xs.getLastD 0) xs.dropLast).symm
      rwa [← hlast] at this
    exact (List.cons_perm_iff_perm_erase.mp p).2.symm
  k_steps
  rename OSet w _ dx l (xs.erase _) => O''
  rename News g L' _ _ => N''
  rename Fr g L' _ _ => F''
  rename IntsAre _ xs.dropLast => I''
  exact h _ _ _ (fin3 hg F'' hdx (N''.get (by k_mem)) (by simp)) (.mk' (N''.get (by k_mem)) (N''.get (by k_mem)) (N''.get (by k_mem)) (O''.perm hperm) I'' ba bd bl)
end Mine
end

section
open PySem PySem.W PyProof.Rows
theorem Mine.rs_A3 {M : Model} {A : Around} {s : Shared} {v : Value} {Q : Bool → Shared → Prop} {E : Value → Shared → Prop} (h : wpAny M A (truthy v) Q E s) : wpAny M A (truthy v) Q E s := by
  first | (walk1; fail) | exact h
end

section
open PySem PySem.W PyProof.Rows PySem.Builtin.Frozenset PySem.Calls
set_option Elab.async false
set_option maxRecDepth 100000
set_option maxHeartbeats 4000000
namespace Mine

local macro_rules | `(tactic| k_inst) => `(tactic| (refine' OSet.inst ?O ?N ?h1 ?h2; (case N => k_asm); (case O => k_asm); (case h1 => k_mem); (case h2 => k_mem)))
local macro_rules | `(tactic| walk_at "compareOp NotIn int ref") => `(tactic| (k_here; k_dflt (refine' notin_N ?F ?X ?N ?m ?O ?b ?_; (case F => k_asm); (case X => k_asm); (case N => k_asm); (case O => k_asm); (case m => k_mem); (case b => (first | assumption | (unfold scanBound; omega))))))
local macro_rules | `(tactic| walk_at "compareOp In int ref") => `(tactic| (k_here; k_dflt (refine' in_N ?F ?X ?N ?m ?O ?b ?_; (case F => k_asm); (case X => k_asm); (case N => k_asm); (case O => k_asm); (case m => k_mem); (case b => (first | assumption | (unfold scanBound; omega))))))
local macro_rules | `(tactic| walk_at "getAttr ref") => `(tactic| (k_here; (with_reducible show wpAny _ _ (getAttr (Value.ref _) (Str.ofString "_list") _) _ _ _); k_dflt (refine' list_N ?F ?X ?N ?m ?O ?n ?_; (case F => k_asm); (case X => k_asm); (case N => k_asm); (case O => k_asm); (case m => k_mem); (case n => k_mem))))
local macro_rules | `(tactic| walk_at "call builtin:set.add") => `(tactic| (k_here; (with_reducible show wpAny _ _ (call (Value.builtin "set.add") [Value.ref _, Value.int _ _]) _ _ _); k_dflt (refine' add_N ?F ?X ?N ?U ?O ?b ?_; (case F => k_asm); (case X => k_asm); (case N => k_asm); (case O => k_asm); (case U => k_updF); (case b => (first | assumption | (unfold scanBound; omega)))); intro h' tk' o' F' N' O'; (try dsimp only at N')))
local macro_rules | `(tactic| walk_at "getMethod") => `(tactic| (k_here; (with_reducible show wpAny _ _ (getMethod (Value.type "set") _ _) _ _ _); (with_reducible refine' getMethod_setT ?F ?X ?e ?h ?_); k_dflt ((case F => k_asm); (case X => k_asm); (case e => first | with_reducible exact k_set_add | with_reducible exact k_set_remove | with_reducible exact k_set_update | with_reducible exact k_set_init | with_reducible exact k_set_inter | with_reducible exact k_set_diff | with_reducible exact k_set_interu | with_reducible exact k_set_diffu | with_reducible exact k_set_symu); (case h => rfl))))
local macro_rules | `(tactic| walk_at "call builtin:set.remove") => `(tactic| (k_here; (with_reducible show wpAny _ _ (call (Value.builtin "set.remove") [Value.ref _, Value.int _ _]) _ _ _); k_dflt (refine' remove_N ?F ?X ?N ?U ?O ?b ?k ?_; (case F => k_asm); (case X => k_asm); (case N => k_asm); (case O => k_asm); (case U => k_updF); (case b => (first | assumption | (unfold scanBound; omega))); (case k => assumption)); intro h' tk' o' F' N' O'; (try dsimp only at N')))
local macro_rules | `(tactic| walk_at "eval Call Attribute") => `(tactic| (k_here; k_dflt (refine methodCall_star (by rfl) (by rfl) ?_)))
local macro_rules | `(tactic| walk_at "getAttr") => `(tactic| (k_here; (with_reducible show wpAny _ _ (getAttr (Value.type "set") _ _) _ _ _); k_dflt (refine' getAttr_setT ?X ?e ?h ?_; (case X => k_in); (case e => first | with_reducible exact k_set_inter | with_reducible exact k_set_diff | with_reducible exact k_set_interu | with_reducible exact k_set_diffu); (case h => rfl))))
local macro_rules | `(tactic| walk_at "callWith") => `(tactic| (k_here; (with_reducible show wpAny _ _ (callWith _ (Value.builtin _) [] _ []) _ _ _); k_dflt (refine' callWith_starB ?b ?_ ?a ?c; (case a => rfl); (case c => rfl); (case b => exact fun _ => Looks.of_pure rfl))))

local macro_rules | `(tactic| walk_at "pyIter ref") => `(tactic| (k_here; (with_reducible show wpAny _ _ (pyIter (Value.ref _)) _ _ _); refine hold_in ?_))

theorem update_ct {w : World} {s₀ : Shared} {mg mb : Str → Option Value} {hb : Heap} {A : Around} {s : Shared} {R : Result → Shared → Prop} {a dx l y : Addr} {ws : List Value} {xs ys : List Int} (Y : Ct w s₀ mg mb hb A s 900) (O : OSAt w hb s.heap a dx l xs) (hy : s.heap.IsList y ws.toArray) (hyl : y ≠ l) (hI2 : IntsAre ws ys) (hbd : xs.length + ys.length < 100)
    (h : ∀ h' tk', KeptBut [a, l] s.heap h' → OSAt w hb h' a dx l (updL xs ys) → R (.ok (.ret .none)) { s with heap := h', toks := tk' }) :
    codeAny (model PySem.Challenge.rw_ep5040_01.row.prog w) A (.call (.ref 135) ⟨[.ref a, .ref y], []⟩) R s := by
  obtain ⟨hadx, hal, hdl⟩ := O.ne
  obtain ⟨⟨o, vs, n, ha, hl, O, I⟩, hdx, ba, bd, bl⟩ := O
  have HW : ∀ p ∈ [(a, o), (dx, dictObj), (l, PySem.W.listOf vs.toArray n)], s.heap.get? p.1 = some p.2 := by simp [ha, hdx, hl]
  have HF : ∀ p ∈ [(a, o), (dx, dictObj), (l, PySem.W.listOf vs.toArray n)], hb.get? p.1 = none := by simp [ba, bd, bl]
  have KX0 := Y.C.K
  revert KX0
  k_fill
  intro KX0
  refine enterV (f := 135) (front := [(Str.ofString "self", Value.ref a)]) (nm := Str.ofString "iterables") (vs := [Value.ref y]) [(a, o), (dx, dictObj), (l, PySem.W.listOf vs.toArray n)] Y.C Y.k HW HF (Nat.lt_trans Y.depth (by unfold recursionLimit; decide)) rfl (by k_is) rfl (Nat.le_of_ble_eq_true rfl) (by intro y hy; rcases List.mem_cons.mp hy with rfl | hy; rfl; rw [List.mem_singleton.mp hy]; rfl) ?_
  intro g L' h₁ D hg Cg hsz hD hL F N hlt
  have KX := Cg.K
  have T := Cg.T
  have hh := Y.hand
  clear KX0
  k_steps
  unfold Hold
  rename Fr g L' h₁ _ => F
  rename IntsAre vs xs => I
  obtain ⟨hDa, hDx, hDl⟩ : (@Ne Nat D a) ∧ (@Ne Nat D dx) ∧ (@Ne Nat D l) := by
    simp only [List.forall_mem_cons] at hlt
    exact ⟨Nat.ne_of_gt hlt.1, Nat.ne_of_gt hlt.2.1, Nat.ne_of_gt hlt.2.2.1⟩
  have hyg : g.IsList y ws.toArray := by
    have hya := set_ne_list ha O.set hy
    have hyd := dict_ne_list hdx hy
    obtain ⟨oy, hoy, r⟩ := hy
    exact ⟨oy, hg y oy hoy (by simp; exact ⟨fun e => hya e.symm, fun e => hyd e.symm, hyl⟩), r⟩
  refine for_tup (src := [(D, tupObj [Value.ref y])]) (k := 0) (vs := [Value.ref y]) (news := [(a, o), (dx, dictObj), (l, PySem.W.listOf vs.toArray n)])
    (fun i m nw => ∃ o' vs' n' u1 u2, nw = [(a, o'), (dx, dictObj), (l, PySem.W.listOf vs'.toArray n')] ∧ OSet w o' dx l (if i = 0 then xs else updL xs ys) ∧ IntsAre vs' (if i = 0 then xs else updL xs ys) ∧
      m = fun z => if z = Str.ofString "element" then u1 else if z = Str.ofString "iterable" then u2 else List.lookup z ([(Str.ofString "self", Value.ref a)] ++ [(Str.ofString "iterables", Value.ref D)]).reverse) hh F N (by simp) ?_ ?_ ?_
  · refine ⟨o, vs, n, none, none, rfl, O, I, ?_⟩
    funext z
    by_cases e1 : z = Str.ofString "element"
    · rw [if_pos e1, e1]; rfl
    · rw [if_neg e1]
      by_cases e2 : z = Str.ofString "iterable"
      · rw [if_pos e2, e2]; rfl
      · rw [if_neg e2]
  · rintro i v m₁ news₁ h tk I1 oI hv hlI ⟨o', vs', n', u1, u2, rfl, O', I', rfl⟩ hadr F₁ N₁
    clear F N O I
    obtain ⟨rfl, rfl⟩ : i = 0 ∧ v = Value.ref y := by
      cases i with
      | zero => exact ⟨rfl, (Option.some.inj hv).symm⟩
      | succ j => simp at hv
    simp only [List.cons_append, List.nil_append, List.forall_mem_cons] at N₁ hlI
    obtain ⟨hI1, hI2', hI3, hI4, _⟩ := hlI
    replace hI1 : @LT.lt Nat _ D I1 := hI1
    replace hI2' : @LT.lt Nat _ a I1 := hI2'
    replace hI3 : @LT.lt Nat _ dx I1 := hI3
    replace hI4 : @LT.lt Nat _ l I1 := hI4
    k_steps
    unfold Hold
    rename Fr g _ h _ => F
    rename IntsAre vs' _ => I'
    have hyh : h.IsList y ws.toArray := let ⟨oy, hoy, r⟩ := hyg; ⟨oy, F.keep _ _ hoy, r⟩
    refine for_list (src := [(I1, oI), (D, tupObj [Value.ref y])]) (ns := ys) (vs := ws) (news := [(a, o'), (dx, dictObj), (l, PySem.W.listOf vs'.toArray n')])
      (fun j m nw => ∃ o' vs' n' u1, nw = [(a, o'), (dx, dictObj), (l, PySem.W.listOf vs'.toArray n')] ∧ OSet w o' dx l (updL xs (ys.take j)) ∧ IntsAre vs' (updL xs (ys.take j)) ∧
        m = fun z => if z = Str.ofString "element" then u1 else if z = Str.ofString "iterable" then some (Value.ref y) else List.lookup z ([(Str.ofString "self", Value.ref a)] ++ [(Str.ofString "iterables", Value.ref D)]).reverse) hh hyh hI2 F N₁ (.inr (let ⟨oy, hoy, _⟩ := hyg; ⟨oy, hoy⟩)) ?_ ?_ ?_ ?_
    · obtain ⟨oy, hoy, _⟩ := hyg
      exact Nat.ne_of_lt (Nat.lt_of_lt_of_le (Heap.lt_size hoy) F.above)
    · refine ⟨o', vs', n', u1, rfl, by simpa [updL] using O', by simpa [updL] using I', ?_⟩
      funext z
      by_cases e1 : z = Str.ofString "element"
      · subst e1; rfl
      · by_cases e2 : z = Str.ofString "iterable"
        · subst e2; rfl
        · simp [e1, e2]
    · rintro j k t m₂ news₂ h₂ tk₂ I2 oI2 hk hlI2 ⟨o2, vs2, n2, u2', rfl, O2, J2, rfl⟩ hadr2 F₂ N₂
      clear F N₁ O' I'
      have hb2 : (updL xs (ys.take j)).length < 100 := by
        have h1 := updL_length (xs := xs) (ys := ys.take j)
        have h2 : (ys.take j).length ≤ ys.length := by rw [List.length_take]; omega
        have h3 : j < ys.length := (List.getElem?_eq_some_iff.mp hk).1
        omega
      simp only [List.cons_append, List.nil_append, List.forall_mem_cons] at N₂ hlI2
      obtain ⟨q1, q2, q3, q4, q5, _⟩ := hlI2
      replace q1 : @LT.lt Nat _ I1 I2 := q1
      replace q2 : @LT.lt Nat _ D I2 := q2
      replace q3 : @LT.lt Nat _ a I2 := q3
      replace q4 : @LT.lt Nat _ dx I2 := q4
      replace q5 : @LT.lt Nat _ l I2 := q5
      have eu := updL_take (xs := xs) hk
      have em : ∀ u : Option Value, (fun z => if z = Str.ofString "element" then some (Value.int k t) else (fun z => if z = Str.ofString "element" then u else if z = Str.ofString "iterable" then some (Value.ref y) else List.lookup z ([(Str.ofString "self", Value.ref a)] ++ [(Str.ofString "iterables", Value.ref D)]).reverse) z) =
          fun z => if z = Str.ofString "element" then some (Value.int k t) else if z = Str.ofString "iterable" then some (Value.ref y) else List.lookup z ([(Str.ofString "self", Value.ref a)] ++ [(Str.ofString "iterables", Value.ref D)]).reverse := by
        intro u; funext z
        by_cases e1 : z = Str.ofString "element" <;> simp [e1]
      k_steps
      · rename k ∈ updL xs (ys.take j) => hm
        have e := addL_of_mem hm
        exact TurnEnd.next (fx := [(I2, oI2), (I1, oI), (D, tupObj [Value.ref y])]) (news' := [(a, o2), (dx, dictObj), (l, PySem.W.listOf vs2.toArray n2)]) F₂ N₂ rfl ⟨o2, vs2, n2, _, rfl, by rw [eu, e]; exact O2, by rw [eu, e]; exact J2, em _⟩
      · rename ¬ k ∈ updL xs (ys.take j) => hm
        have e := addL_of_not hm
        rename OSet w _ dx l (addL _ _) => O3
        rename_i h3 _ o3 F3 N3
        exact TurnEnd.next (fx := [(I2, oI2), (I1, oI), (D, tupObj [Value.ref y])]) (news' := [(a, o3), (dx, dictObj), (l, PySem.W.listOf (vs2 ++ [Value.int k t]).toArray (n2 + 1))]) F3 (by simpa using N3) rfl ⟨o3, _, _, _, rfl, by rw [eu]; exact O3, by rw [eu, e]; exact IntsAre.append J2 (.cons k t .nil), em _⟩
    · rintro h3 tk3 m3 news3 F3 N3 hadr3 ⟨o3, vs3, n3, u3, rfl, O3, J3, rfl⟩
      rw [List.take_length] at O3 J3
      clear F N₁ O' I'
      k_steps
      exact TurnEnd.next (fx := [(I1, oI), (D, tupObj [Value.ref y])]) (news' := [(a, o3), (dx, dictObj), (l, PySem.W.listOf vs3.toArray n3)]) F3 N3 rfl ⟨o3, vs3, n3, u3, some (Value.ref y), rfl, O3, J3, rfl⟩
  · rintro h3 tk3 m3 news3 F3 N3 hadr3 ⟨o3, vs3, n3, u3, u4, rfl, O3, J3, rfl⟩
    clear F N O I
    k_steps
    have N4 : News g L' h3 [(D, tupObj [Value.ref y]), (a, o3), (dx, dictObj), (l, PySem.W.listOf vs3.toArray n3)] := N3
    exact h _ _ (fin3 hg F3 hdx (N4.get (by k_mem)) (by simp)) (.mk' (N4.get (by k_mem)) (N4.get (by k_mem)) (N4.get (by k_mem)) O3 J3 ba bd bl)
end Mine
end

section
open PySem PySem.W PyProof.Rows
theorem Mine.rs_A4 {M : Model} {A : Around} {s : Shared} {v : Value} {Q : Bool → Shared → Prop} {E : Value → Shared → Prop} (h : wpAny M A (truthy v) Q E s) : wpAny M A (truthy v) Q E s := by
  first | (walk1; fail) | exact h
end

section
open PySem PySem.W PyProof.Rows PySem.Builtin.Frozenset PySem.Calls
set_option Elab.async false
set_option maxRecDepth 100000
set_option maxHeartbeats 4000000
namespace Mine

local macro_rules | `(tactic| k_inst) => `(tactic| (refine' OSet.inst ?O ?N ?h1 ?h2; (case N => k_asm); (case O => k_asm); (case h1 => k_mem); (case h2 => k_mem)))
local macro_rules | `(tactic| walk_at "compareOp NotIn int ref") => `(tactic| (k_here; k_dflt (refine' notin_N ?F ?X ?N ?m ?O ?b ?_; (case F => k_asm); (case X => k_asm); (case N => k_asm); (case O => k_asm); (case m => k_mem); (case b => (first | assumption | (unfold scanBound; omega))))))
local macro_rules | `(tactic| walk_at "compareOp In int ref") => `(tactic| (k_here; k_dflt (refine' in_N ?F ?X ?N ?m ?O ?b ?_; (case F => k_asm); (case X => k_asm); (case N => k_asm); (case O => k_asm); (case m => k_mem); (case b => (first | assumption | (unfold scanBound; omega))))))
local macro_rules | `(tactic| walk_at "getAttr ref") => `(tactic| (k_here; (with_reducible show wpAny _ _ (getAttr (Value.ref _) (Str.ofString "_list") _) _ _ _); k_dflt (refine' list_N ?F ?X ?N ?m ?O ?n ?_; (case F => k_asm); (case X => k_asm); (case N => k_asm); (case O => k_asm); (case m => k_mem); (case n => k_mem))))
local macro_rules | `(tactic| walk_at "call builtin:set.add") => `(tactic| (k_here; (with_reducible show wpAny _ _ (call (Value.builtin "set.add") [Value.ref _, Value.int _ _]) _ _ _); k_dflt (refine' add_N ?F ?X ?N ?U ?O ?b ?_; (case F => k_asm); (case X => k_asm); (case N => k_asm); (case O => k_asm); (case U => k_updF); (case b => (first | assumption | (unfold scanBound; omega)))); intro h' tk' o' F' N' O'; (try dsimp only at N')))
local macro_rules | `(tactic| walk_at "getMethod") => `(tactic| (k_here; (with_reducible show wpAny _ _ (getMethod (Value.type "set") _ _) _ _ _); (with_reducible refine' getMethod_setT ?F ?X ?e ?h ?_); k_dflt ((case F => k_asm); (case X => k_asm); (case e => first | with_reducible exact k_set_add | with_reducible exact k_set_remove | with_reducible exact k_set_update | with_reducible exact k_set_init | with_reducible exact k_set_inter | with_reducible exact k_set_diff | with_reducible exact k_set_interu | with_reducible exact k_set_diffu | with_reducible exact k_set_symu); (case h => rfl))))
local macro_rules | `(tactic| walk_at "call builtin:set.remove") => `(tactic| (k_here; (with_reducible show wpAny _ _ (call (Value.builtin "set.remove") [Value.ref _, Value.int _ _]) _ _ _); k_dflt (refine' remove_N ?F ?X ?N ?U ?O ?b ?k ?_; (case F => k_asm); (case X => k_asm); (case N => k_asm); (case O => k_asm); (case U => k_updF); (case b => (first | assumption | (unfold scanBound; omega))); (case k => assumption)); intro h' tk' o' F' N' O'; (try dsimp only at N')))
local macro_rules | `(tactic| walk_at "eval Call Attribute") => `(tactic| (k_here; k_dflt (refine methodCall_star (by rfl) (by rfl) ?_)))
local macro_rules | `(tactic| walk_at "getAttr") => `(tactic| (k_here; (with_reducible show wpAny _ _ (getAttr (Value.type "set") _ _) _ _ _); k_dflt (refine' getAttr_setT ?X ?e ?h ?_; (case X => k_in); (case e => first | with_reducible exact k_set_inter | with_reducible exact k_set_diff | with_reducible exact k_set_interu | with_reducible exact k_set_diffu); (case h => rfl))))
local macro_rules | `(tactic| walk_at "callWith") => `(tactic| (k_here; (with_reducible show wpAny _ _ (callWith _ (Value.builtin _) [] _ []) _ _ _); k_dflt (refine' callWith_starB ?b ?_ ?a ?c; (case a => rfl); (case c => rfl); (case b => exact fun _ => Looks.of_pure rfl))))

local macro_rules | `(tactic| walk_at "eval ListComp") => `(tactic| (k_here; refine hold_in ?_))

theorem inter_update_ct {w : World} {s₀ : Shared} {mg mb : Str → Option Value} {hb : Heap} {A : Around} {s : Shared} {R : Result → Shared → Prop} {a dx l y : Addr} {ws : List Value} {xs ys : List Int} (Y : Ct w s₀ mg mb hb A s 900) (O : OSAt w hb s.heap a dx l xs) (hy : s.heap.IsList y ws.toArray) (hyl : y ≠ l) (hI2 : IntsAre ws ys) (hbd : xs.length + ys.length < 100)
    (h : ∀ h' tk' l', KeptBut [a, l] s.heap h' → s.heap.get? l' = none → OSAt w hb h' a dx l' (xs.filter fun z => decide (z ∈ ys)) → R (.ok (.ret .none)) { s with heap := h', toks := tk' }) :
    codeAny (model PySem.Challenge.rw_ep5040_01.row.prog w) A (.call (.ref 197) ⟨[.ref a, .ref y], []⟩) R s := by
  obtain ⟨hadx, hal, hdl⟩ := O.ne
  obtain ⟨⟨o, vs, n, ha, hl, O, I⟩, hdx, ba, bd, bl⟩ := O
  have HW : ∀ p ∈ [(a, o), (dx, dictObj), (l, PySem.W.listOf vs.toArray n)], s.heap.get? p.1 = some p.2 := by simp [ha, hdx, hl]
  have HF : ∀ p ∈ [(a, o), (dx, dictObj), (l, PySem.W.listOf vs.toArray n)], hb.get? p.1 = none := by simp [ba, bd, bl]
  have KX0 := Y.C.K
  revert KX0
  k_fill
  intro KX0
  refine enterVC (f := 197) (front := [(Str.ofString "self", Value.ref a)]) (nm := Str.ofString "other") (vs := [Value.ref y]) [(a, o), (dx, dictObj), (l, PySem.W.listOf vs.toArray n)] Y.C Y.k HW HF (Nat.lt_trans Y.depth (by unfold recursionLimit; decide)) rfl (by k_is) rfl (Nat.le_of_ble_eq_true rfl) (fun n v => kindsX (by rfl) n) (by decide +kernel) ?_
  intro g L' h₁ tk D cells hg Cg hsz hD hL F N CY hlt hltD
  have KX := Cg.K
  have T := Cg.T
  have hh := Y.hand
  clear KX0
  obtain ⟨oc, rfl, dc⟩ := CellsAre.one CY
  clear CY
  simp only [List.cons_append, List.nil_append] at N
  have dc' : oc.data = .cell (some (.ref a)) := dc
  simp only [List.forall_mem_cons] at hlt hltD
  obtain ⟨q1, q2, q3, q4, _⟩ := hlt
  obtain ⟨q5, q6, q7, _⟩ := hltD
  replace q1 : @LT.lt Nat _ D L' := q1
  replace q2 : @LT.lt Nat _ a L' := q2
  replace q3 : @LT.lt Nat _ dx L' := q3
  replace q4 : @LT.lt Nat _ l L' := q4
  replace q5 : @LT.lt Nat _ a D := q5
  replace q6 : @LT.lt Nat _ dx D := q6
  replace q7 : @LT.lt Nat _ l D := q7
  have hyg : g.IsList y ws.toArray := by
    have hya := set_ne_list ha O.set hy
    have hyd := dict_ne_list hdx hy
    obtain ⟨oy, hoy, r⟩ := hy
    exact ⟨oy, hg y oy hoy (by simp; exact ⟨fun e => hya e.symm, fun e => hyd e.symm, hyl⟩), r⟩
  k_steps
  rename Fr g L' _ _ => F1
  rename News g L' _ _ => N1
  refine inter_update_N (y := y) (vs := ws) hh F1 KX N1 (by k_updF) O (let ⟨oy, hoy, r⟩ := hyg; ⟨oy, F1.keep _ _ hoy, r⟩) hI2 (by unfold scanBound; omega) ?_
  intro h2 tk2 o2 zs F2 N2 O2 hz
  clear F1 N1
  k_steps
  unfold Hold
  have hzb : zs.length ≤ xs.length := nodup_le O2.set.nd (fun k hk => ((hz k).mp hk).1)
  refine filt_N (l := l) (vs := vs) (xs := xs) (fun z => decide (z ∈ zs)) hh F2 N2 ⟨_, N2.get (by k_mem), rfl, n, rfl⟩ I (by omega) (by with_unfolding_all rfl) (by decide) (by rfl) (by decide) (by rfl) (by decide) ?_ ?_ ?_
  · k_steps
  · intro C k t s3 m3 E' hns hm hk
    have X3 := KX.keeps (fun b o e => hk b o (F2.keep b o e))
    exact test_in O2.set (hk _ _ (N2.get (by k_mem))) (O2.setCls X3) (O2.has X3) (by unfold scanBound; omega) (hk _ _ (N2.get (by k_mem))) dc' (by rfl) (by rfl) (by rfl) (by rfl) hns hm
  · intro D2 h3 tk3 n3 F3 N3 I3 hD0
    have n1 := ne_none hD0 (N2.get (a := a) (by k_mem))
    have n2 := ne_none hD0 (N2.get (a := dx) (by k_mem))
    have n3 := ne_none hD0 (N2.get (a := D) (by k_mem))
    have n4 := ne_none hD0 (N2.get (a := L' + 1) (by k_mem))
    have n5 := ne_none hD0 (N2.get (a := l) (by k_mem))
    clear F2 N2
    k_steps
    refine setlist_N F3 KX N3 (by k_updF) (by k_mem) O2 ?_
    intro h4 tk4 o4 F4 N4 O4
    clear F3 N3
    k_steps
    have e : (xs.filter fun z => decide (z ∈ zs)) = xs.filter fun z => decide (z ∈ ys) := List.filter_congr fun k hk => by simp [hz k, hk]
    rw [e] at I3
    refine h _ _ D2 (fin3 hg F4 hdx (N4.get (by k_mem)) (by simp)) (none_of_g hg (N4 (D2, _) (.head _)).2.2 (by simp only [List.forall_mem_cons]; exact ⟨Ne.symm n1, Ne.symm n2, Ne.symm n5, fun p hp => by simp at hp⟩)) (.mk' (N4.get (by k_mem)) (N4.get (by k_mem)) (N4.get (by k_mem)) (O4.setTo (O.set.nd.sublist List.filter_sublist) fun k => ?_) I3 ba bd ?_)
    · rw [hz k]; simp
    · exact stays_none (hb_stays Y.k HF hg) (N4 (D2, _) (.head _)).2.2
end Mine
end

section
open PySem PySem.W PyProof.Rows
theorem Mine.rs_A5 {M : Model} {A : Around} {s : Shared} {v : Value} {Q : Bool → Shared → Prop} {E : Value → Shared → Prop} (h : wpAny M A (truthy v) Q E s) : wpAny M A (truthy v) Q E s := by
  first | (walk1; fail) | exact h
end

section
open PySem PySem.W PyProof.Rows PySem.Builtin.Frozenset PySem.Calls
set_option Elab.async false
set_option maxRecDepth 100000
set_option maxHeartbeats 4000000
namespace Mine

local macro_rules | `(tactic| k_inst) => `(tactic| (refine' OSet.inst ?O ?N ?h1 ?h2; (case N => k_asm); (case O => k_asm); (case h1 => k_mem); (case h2 => k_mem)))
local macro_rules | `(tactic| walk_at "compareOp NotIn int ref") => `(tactic| (k_here; k_dflt (refine' notin_N ?F ?X ?N ?m ?O ?b ?_; (case F => k_asm); (case X => k_asm); (case N => k_asm); (case O => k_asm); (case m => k_mem); (case b => (first | assumption | (unfold scanBound; omega))))))
local macro_rules | `(tactic| walk_at "compareOp In int ref") => `(tactic| (k_here; k_dflt (refine' in_N ?F ?X ?N ?m ?O ?b ?_; (case F => k_asm); (case X => k_asm); (case N => k_asm); (case O => k_asm); (case m => k_mem); (case b => (first | assumption | (unfold scanBound; omega))))))
local macro_rules | `(tactic| walk_at "getAttr ref") => `(tactic| (k_here; (with_reducible show wpAny _ _ (getAttr (Value.ref _) (Str.ofString "_list") _) _ _ _); k_dflt (refine' list_N ?F ?X ?N ?m ?O ?n ?_; (case F => k_asm); (case X => k_asm); (case N => k_asm); (case O => k_asm); (case m => k_mem); (case n => k_mem))))
local macro_rules | `(tactic| walk_at "call builtin:set.add") => `(tactic| (k_here; (with_reducible show wpAny _ _ (call (Value.builtin "set.add") [Value.ref _, Value.int _ _]) _ _ _); k_dflt (refine' add_N ?F ?X ?N ?U ?O ?b ?_; (case F => k_asm); (case X => k_asm); (case N => k_asm); (case O => k_asm); (case U => k_updF); (case b => (first | assumption | (unfold scanBound; omega)))); intro h' tk' o' F' N' O'; (try dsimp only at N')))
local macro_rules | `(tactic| walk_at "getMethod") => `(tactic| (k_here; (with_reducible show wpAny _ _ (getMethod (Value.type "set") _ _) _ _ _); (with_reducible refine' getMethod_setT ?F ?X ?e ?h ?_); k_dflt ((case F => k_asm); (case X => k_asm); (case e => first | with_reducible exact k_set_add | with_reducible exact k_set_remove | with_reducible exact k_set_update | with_reducible exact k_set_init | with_reducible exact k_set_inter | with_reducible exact k_set_diff | with_reducible exact k_set_interu | with_reducible exact k_set_diffu | with_reducible exact k_set_symu); (case h => rfl))))
local macro_rules | `(tactic| walk_at "call builtin:set.remove") => `(tactic| (k_here; (with_reducible show wpAny _ _ (call (Value.builtin "set.remove") [Value.ref _, Value.int _ _]) _ _ _); k_dflt (refine' remove_N ?F ?X ?N ?U ?O ?b ?k ?_; (case F => k_asm); (case X => k_asm); (case N => k_asm); (case O => k_asm); (case U => k_updF); (case b => (first | assumption | (unfold scanBound; omega))); (case k => assumption)); intro h' tk' o' F' N' O'; (try dsimp only at N')))
local macro_rules | `(tactic| walk_at "eval Call Attribute") => `(tactic| (k_here; k_dflt (refine methodCall_star (by rfl) (by rfl) ?_)))
local macro_rules | `(tactic| walk_at "getAttr") => `(tactic| (k_here; (with_reducible show wpAny _ _ (getAttr (Value.type "set") _ _) _ _ _); k_dflt (refine' getAttr_setT ?X ?e ?h ?_; (case X => k_in); (case e => first | with_reducible exact k_set_inter | with_reducible exact k_set_diff | with_reducible exact k_set_interu | with_reducible exact k_set_diffu); (case h => rfl))))
local macro_rules | `(tactic| walk_at "callWith") => `(tactic| (k_here; (with_reducible show wpAny _ _ (callWith _ (Value.builtin _) [] _ []) _ _ _); k_dflt (refine' callWith_starB ?b ?_ ?a ?c; (case a => rfl); (case c => rfl); (case b => exact fun _ => Looks.of_pure rfl))))

local macro_rules | `(tactic| walk_at "eval ListComp") => `(tactic| (k_here; refine hold_in ?_))

theorem diff_update_ct {w : World} {s₀ : Shared} {mg mb : Str → Option Value} {hb : Heap} {A : Around} {s : Shared} {R : Result → Shared → Prop} {a dx l y : Addr} {ws : List Value} {xs ys : List Int} (Y : Ct w s₀ mg mb hb A s 900) (O : OSAt w hb s.heap a dx l xs) (hy : s.heap.IsList y ws.toArray) (hyl : y ≠ l) (hI2 : IntsAre ws ys) (hsm : Small xs) (hbd : xs.length ≤ 16)
    (h : ∀ h' tk' l', KeptBut [a, l] s.heap h' → s.heap.get? l' = none → OSAt w hb h' a dx l' (xs.filter fun z => !decide (z ∈ ys)) → R (.ok (.ret .none)) { s with heap := h', toks := tk' }) :
    codeAny (model PySem.Challenge.rw_ep5040_01.row.prog w) A (.call (.ref 221) ⟨[.ref a, .ref y], []⟩) R s := by
  obtain ⟨hadx, hal, hdl⟩ := O.ne
  obtain ⟨⟨o, vs, n, ha, hl, O, I⟩, hdx, ba, bd, bl⟩ := O
  have HW : ∀ p ∈ [(a, o), (dx, dictObj), (l, PySem.W.listOf vs.toArray n)], s.heap.get? p.1 = some p.2 := by simp [ha, hdx, hl]
  have HF : ∀ p ∈ [(a, o), (dx, dictObj), (l, PySem.W.listOf vs.toArray n)], hb.get? p.1 = none := by simp [ba, bd, bl]
  have KX0 := Y.C.K
  revert KX0
  k_fill
  intro KX0
  refine enterVC (f := 221) (front := [(Str.ofString "self", Value.ref a)]) (nm := Str.ofString "other") (vs := [Value.ref y]) [(a, o), (dx, dictObj), (l, PySem.W.listOf vs.toArray n)] Y.C Y.k HW HF (Nat.lt_trans Y.depth (by unfold recursionLimit; decide)) rfl (by k_is) rfl (Nat.le_of_ble_eq_true rfl) (fun n v => kindsX (by rfl) n) (by decide +kernel) ?_
  intro g L' h₁ tk D cells hg Cg hsz hD hL F N CY hlt hltD
  have KX := Cg.K
  have T := Cg.T
  have hh := Y.hand
  clear KX0
  obtain ⟨oc, rfl, dc⟩ := CellsAre.one CY
  clear CY
  simp only [List.cons_append, List.nil_append] at N
  have dc' : oc.data = .cell (some (.ref a)) := dc
  simp only [List.forall_mem_cons] at hlt hltD
  obtain ⟨q1, q2, q3, q4, _⟩ := hlt
  obtain ⟨q5, q6, q7, _⟩ := hltD
  replace q1 : @LT.lt Nat _ D L' := q1
  replace q2 : @LT.lt Nat _ a L' := q2
  replace q3 : @LT.lt Nat _ dx L' := q3
  replace q4 : @LT.lt Nat _ l L' := q4
  replace q5 : @LT.lt Nat _ a D := q5
  replace q6 : @LT.lt Nat _ dx D := q6
  replace q7 : @LT.lt Nat _ l D := q7
  have hyg : g.IsList y ws.toArray := by
    have hya := set_ne_list ha O.set hy
    have hyd := dict_ne_list hdx hy
    obtain ⟨oy, hoy, r⟩ := hy
    exact ⟨oy, hg y oy hoy (by simp; exact ⟨fun e => hya e.symm, fun e => hyd e.symm, hyl⟩), r⟩
  k_steps
  rename Fr g L' _ _ => F1
  rename News g L' _ _ => N1
  refine diff_update_N (y := y) (vs := ws) hh F1 KX N1 (by k_updF) O (let ⟨oy, hoy, r⟩ := hyg; ⟨oy, F1.keep _ _ hoy, r⟩) hI2 hsm hbd ?_
  intro h2 tk2 o2 zs F2 N2 O2 hz
  clear F1 N1
  k_steps
  unfold Hold
  have hzb : zs.length ≤ xs.length := nodup_le O2.set.nd (fun k hk => ((hz k).mp hk).1)
  refine filt_N (l := l) (vs := vs) (xs := xs) (fun z => decide (z ∈ zs)) hh F2 N2 ⟨_, N2.get (by k_mem), rfl, n, rfl⟩ I (by omega) (by with_unfolding_all rfl) (by decide) (by rfl) (by decide) (by rfl) (by decide) ?_ ?_ ?_
  · k_steps
  · intro C k t s3 m3 E' hns hm hk
    have X3 := KX.keeps (fun b o e => hk b o (F2.keep b o e))
    exact test_in O2.set (hk _ _ (N2.get (by k_mem))) (O2.setCls X3) (O2.has X3) (by unfold scanBound; omega) (hk _ _ (N2.get (by k_mem))) dc' (by rfl) (by rfl) (by rfl) (by rfl) hns hm
  · intro D2 h3 tk3 n3 F3 N3 I3 hD0
    have n1 := ne_none hD0 (N2.get (a := a) (by k_mem))
    have n2 := ne_none hD0 (N2.get (a := dx) (by k_mem))
    have n3 := ne_none hD0 (N2.get (a := D) (by k_mem))
    have n4 := ne_none hD0 (N2.get (a := L' + 1) (by k_mem))
    have n5 := ne_none hD0 (N2.get (a := l) (by k_mem))
    clear F2 N2
    k_steps
    refine setlist_N F3 KX N3 (by k_updF) (by k_mem) O2 ?_
    intro h4 tk4 o4 F4 N4 O4
    clear F3 N3
    k_steps
    have e : (xs.filter fun z => decide (z ∈ zs)) = xs.filter fun z => !decide (z ∈ ys) := List.filter_congr fun k hk => by simp [hz k, hk]
    rw [e] at I3
    refine h _ _ D2 (fin3 hg F4 hdx (N4.get (by k_mem)) (by simp)) (none_of_g hg (N4 (D2, _) (.head _)).2.2 (by simp only [List.forall_mem_cons]; exact ⟨Ne.symm n1, Ne.symm n2, Ne.symm n5, fun p hp => by simp at hp⟩)) (.mk' (N4.get (by k_mem)) (N4.get (by k_mem)) (N4.get (by k_mem)) (O4.setTo (O.set.nd.sublist List.filter_sublist) fun k => ?_) I3 ba bd ?_)
    · rw [hz k]; simp
    · exact stays_none (hb_stays Y.k HF hg) (N4 (D2, _) (.head _)).2.2
end Mine
end

section
open PySem PySem.W PyProof.Rows
theorem Mine.rs_A6 {M : Model} {A : Around} {s : Shared} {v : Value} {Q : Bool → Shared → Prop} {E : Value → Shared → Prop} (h : wpAny M A (truthy v) Q E s) : wpAny M A (truthy v) Q E s := by
  first | (walk1; fail) | exact h
end

section
open PySem PySem.W PyProof.Rows PySem.Builtin.Frozenset PySem.Calls
set_option Elab.async false
set_option maxRecDepth 100000
set_option maxHeartbeats 4000000
namespace Mine

local macro_rules | `(tactic| k_inst) => `(tactic| (refine' OSet.inst ?O ?N ?h1 ?h2; (case N => k_asm); (case O => k_asm); (case h1 => k_mem); (case h2 => k_mem)))
local macro_rules | `(tactic| walk_at "compareOp NotIn int ref") => `(tactic| (k_here; k_dflt (refine' notin_N ?F ?X ?N ?m ?O ?b ?_; (case F => k_asm); (case X => k_asm); (case N => k_asm); (case O => k_asm); (case m => k_mem); (case b => (first | assumption | (unfold scanBound; omega))))))
local macro_rules | `(tactic| walk_at "compareOp In int ref") => `(tactic| (k_here; k_dflt (refine' in_N ?F ?X ?N ?m ?O ?b ?_; (case F => k_asm); (case X => k_asm); (case N => k_asm); (case O => k_asm); (case m => k_mem); (case b => (first | assumption | (unfold scanBound; omega))))))
local macro_rules | `(tactic| walk_at "getAttr ref") => `(tactic| (k_here; (with_reducible show wpAny _ _ (getAttr (Value.ref _) (Str.ofString "_list") _) _ _ _); k_dflt (refine' list_N ?F ?X ?N ?m ?O ?n ?_; (case F => k_asm); (case X => k_asm); (case N => k_asm); (case O => k_asm); (case m => k_mem); (case n => k_mem))))
local macro_rules | `(tactic| walk_at "call builtin:set.add") => `(tactic| (k_here; (with_reducible show wpAny _ _ (call (Value.builtin "set.add") [Value.ref _, Value.int _ _]) _ _ _); k_dflt (refine' add_N ?F ?X ?N ?U ?O ?b ?_; (case F => k_asm); (case X => k_asm); (case N => k_asm); (case O => k_asm); (case U => k_updF); (case b => (first | assumption | (unfold scanBound; omega)))); intro h' tk' o' F' N' O'; (try dsimp only at N')))
local macro_rules | `(tactic| walk_at "getMethod") => `(tactic| (k_here; (with_reducible show wpAny _ _ (getMethod (Value.type "set") _ _) _ _ _); (with_reducible refine' getMethod_setT ?F ?X ?e ?h ?_); k_dflt ((case F => k_asm); (case X => k_asm); (case e => first | with_reducible exact k_set_add | with_reducible exact k_set_remove | with_reducible exact k_set_update | with_reducible exact k_set_init | with_reducible exact k_set_inter | with_reducible exact k_set_diff | with_reducible exact k_set_interu | with_reducible exact k_set_diffu | with_reducible exact k_set_symu); (case h => rfl))))
local macro_rules | `(tactic| walk_at "call builtin:set.remove") => `(tactic| (k_here; (with_reducible show wpAny _ _ (call (Value.builtin "set.remove") [Value.ref _, Value.int _ _]) _ _ _); k_dflt (refine' remove_N ?F ?X ?N ?U ?O ?b ?k ?_; (case F => k_asm); (case X => k_asm); (case N => k_asm); (case O => k_asm); (case U => k_updF); (case b => (first | assumption | (unfold scanBound; omega))); (case k => assumption)); intro h' tk' o' F' N' O'; (try dsimp only at N')))
local macro_rules | `(tactic| walk_at "eval Call Attribute") => `(tactic| (k_here; k_dflt (refine methodCall_star (by rfl) (by rfl) ?_)))
local macro_rules | `(tactic| walk_at "getAttr") => `(tactic| (k_here; (with_reducible show wpAny _ _ (getAttr (Value.type "set") _ _) _ _ _); k_dflt (refine' getAttr_setT ?X ?e ?h ?_; (case X => k_in); (case e => first | with_reducible exact k_set_inter | with_reducible exact k_set_diff | with_reducible exact k_set_interu | with_reducible exact k_set_diffu); (case h => rfl))))
local macro_rules | `(tactic| walk_at "callWith") => `(tactic| (k_here; (with_reducible show wpAny _ _ (callWith _ (Value.builtin _) [] _ []) _ _ _); k_dflt (refine' callWith_starB ?b ?_ ?a ?c; (case a => rfl); (case c => rfl); (case b => exact fun _ => Looks.of_pure rfl))))

local macro_rules | `(tactic| walk_at "eval ListComp") => `(tactic| (k_here; refine hold_in ?_))

theorem sym_update_ct {w : World} {s₀ : Shared} {mg mb : Str → Option Value} {hb : Heap} {A : Around} {s : Shared} {R : Result → Shared → Prop} {a dx l y : Addr} {ws : List Value} {xs ys : List Int} (Y : Ct w s₀ mg mb hb A s 900) (O : OSAt w hb s.heap a dx l xs) {ny : Nat} (hy0 : s.heap.get? y = some (PySem.W.listOf ws.toArray ny)) (hyl : y ≠ l) (hI2 : IntsAre ws ys) (hnd : ys.Nodup) (hbd : xs.length + ys.length < 100)
    (h : ∀ h' tk' l', KeptBut [a, l] s.heap h' → s.heap.get? l' = none → OSAt w hb h' a dx l' ((xs.filter fun z => !decide (z ∈ ys)) ++ ys.filter fun z => !decide (z ∈ xs)) → R (.ok (.ret .none)) { s with heap := h', toks := tk' }) :
    codeAny (model PySem.Challenge.rw_ep5040_01.row.prog w) A (.call (.ref 209) ⟨[.ref a, .ref y], []⟩) R s := by
  obtain ⟨hadx, hal, hdl⟩ := O.ne
  obtain ⟨⟨o, vs, n, ha, hl, O, I⟩, hdx, ba, bd, bl⟩ := O
  have HW : ∀ p ∈ [(a, o), (dx, dictObj), (l, PySem.W.listOf vs.toArray n)], s.heap.get? p.1 = some p.2 := by simp [ha, hdx, hl]
  have HF : ∀ p ∈ [(a, o), (dx, dictObj), (l, PySem.W.listOf vs.toArray n)], hb.get? p.1 = none := by simp [ba, bd, bl]
  have KX0 := Y.C.K
  revert KX0
  k_fill
  intro KX0
  refine enterC (f := 209) (binds := [(Str.ofString "self", Value.ref a), (Str.ofString "other", Value.ref y)]) [(a, o), (dx, dictObj), (l, PySem.W.listOf vs.toArray n)] Y.C Y.k HW HF (Nat.lt_trans Y.depth (by unfold recursionLimit; decide)) rfl (by k_is) (BindsTo.of_eq rfl) (kindsX (by rfl)) (by decide +kernel) ?_
  intro g L' h₁ tk cells hg Cg hsz hL F N CY hlt
  have KX := Cg.K
  have T := Cg.T
  have hh := Y.hand
  clear KX0
  obtain ⟨oc, rfl, dc⟩ := CellsAre.one CY
  clear CY
  simp only [List.cons_append, List.nil_append] at N
  have dc' : oc.data = .cell (some (.ref a)) := dc
  simp only [List.forall_mem_cons] at hlt
  obtain ⟨q2, q3, q4, _⟩ := hlt
  replace q2 : @LT.lt Nat _ a L' := q2
  replace q3 : @LT.lt Nat _ dx L' := q3
  replace q4 : @LT.lt Nat _ l L' := q4
  have hy : s.heap.IsList y ws.toArray := ⟨_, hy0, rfl, _, rfl⟩
  have hyg0 : g.get? y = some (PySem.W.listOf ws.toArray ny) := hg y _ hy0 (by simp; exact ⟨fun e => set_ne_list ha O.set hy e.symm, fun e => dict_ne_list hdx hy e.symm, hyl⟩)
  have hyg : g.IsList y ws.toArray := ⟨_, hyg0, rfl, _, rfl⟩
  k_steps
  refine hasattr_len (F.keep _ _ hyg0) ?_
  intro h1 t1 hk1
  have F1 := fr_kept0 F hk1
  have N1 := news_kept0 N hk1
  clear F N
  k_steps
  rename Fr g L' _ _ => F2
  rename News g L' _ _ => N2
  refine sym_update_N (y := y) (vs := ws) hh F2 KX N2 (by k_updF) O ⟨_, F2.keep _ _ hyg0, rfl, _, rfl⟩ hI2 (by unfold scanBound; omega) ?_
  intro h3 tk3 o3 zs F3 N3 O3 hz
  clear F2 N2
  have hzb : zs.length ≤ xs.length + ys.length := by
    have := nodup_le (xs := xs ++ ys) O3.set.nd (fun k hk => by
      rcases (hz k).mp hk with h | h
      · exact List.mem_append_left _ h.1
      · exact List.mem_append_right _ h.2)
    simpa using this
  k_steps
  unfold Hold
  refine filt_N (l := l) (vs := vs) (xs := xs) (fun z => decide (z ∈ zs)) hh F3 N3 ⟨_, N3.get (by k_mem), rfl, n, rfl⟩ I (by omega) (by with_unfolding_all rfl) (by decide) (by rfl) (by decide) (by rfl) (by decide) ?_ ?_ ?_
  · k_steps
  · intro C k t s3 m3 E' hns hm hk
    have X3 := KX.keeps (fun b o e => hk b o (F3.keep b o e))
    exact test_in O3.set (hk _ _ (N3.get (by k_mem))) (O3.setCls X3) (O3.has X3) (by unfold scanBound; omega) (hk _ _ (N3.get (by k_mem))) dc' (by rfl) (by rfl) (by rfl) (by rfl) hns hm
  · intro D2 h4 tk4 n4 F4 N4 I4 hD0
    have n1 := ne_none hD0 (N3.get (a := a) (by k_mem))
    have n2 := ne_none hD0 (N3.get (a := dx) (by k_mem))
    have n4 := ne_none hD0 (N3.get (a := L' + 1) (by k_mem))
    have n5 := ne_none hD0 (N3.get (a := l) (by k_mem))
    have z1 := n1
    have z2 := n2
    have z5 := n5
    clear F3 N3
    k_steps
    refine setlist_N F4 KX N4 (by k_updF) (by k_mem) O3 ?_
    intro h5 tk5 o5 F5 N5 O5
    clear F4 N4
    k_steps
    unfold Hold
    refine filt_N (l := y) (vs := ws) (xs := ys) (fun z => decide (z ∈ zs)) hh F5 N5 ⟨_, F5.keep _ _ hyg0, rfl, _, rfl⟩ hI2 (by omega) (by with_unfolding_all rfl) (by decide) (by rfl) (by decide) (by rfl) (by decide) ?_ ?_ ?_
    · k_steps
    · intro C k t s3 m3 E' hns hm hk
      have X3 := KX.keeps (fun b o e => hk b o (F5.keep b o e))
      exact test_in O5.set (hk _ _ (N5.get (by k_mem))) (O5.setCls X3) (O5.has X3) (by unfold scanBound; omega) (hk _ _ (N5.get (by k_mem))) dc' (by rfl) (by rfl) (by rfl) (by rfl) hns hm
    · intro D3 h6 tk6 n6 F6 N6 I6 hD0'
      have n1 := ne_none hD0' (N5.get (a := a) (by k_mem))
      have n2 := ne_none hD0' (N5.get (a := dx) (by k_mem))
      have n4 := ne_none hD0' (N5.get (a := L' + 1) (by k_mem))
      have n5 := ne_none hD0' (N5.get (a := l) (by k_mem))
      have n6 := ne_none hD0' (N5.get (a := D2) (by k_mem))
      clear F5 N5
      k_steps
      have lf1 : (vs.filter (keepI fun z => decide (z ∈ zs))).length ≤ vs.length := List.length_filter_le _ _
      have lf2 : (ws.filter (keepI fun z => decide (z ∈ zs))).length ≤ ws.length := List.length_filter_le _ _
      have il1 := I.length
      have il2 := hI2.length
      refine iadd_N F6 N6 (by k_mem) (by k_updF) (by omega) ?_
      intro h7 k7 F7 N7
      clear F6 N6
      k_steps
      refine setlist_N F7 KX N7 (by k_updF) (by k_mem) O5 ?_
      intro h8 tk8 o8 F8 N8 O8
      clear F7 N7
      k_steps
      have e1 : (xs.filter fun z => decide (z ∈ zs)) = xs.filter fun z => !decide (z ∈ ys) := List.filter_congr fun k hk => by simp [hz k, hk]
      have e2 : (ys.filter fun z => decide (z ∈ zs)) = ys.filter fun z => !decide (z ∈ xs) := List.filter_congr fun k hk => by simp [hz k, hk]
      rw [e1] at I4
      rw [e2] at I6
      refine h _ _ D2 (fin3 hg F8 hdx (N8.get (by k_mem)) (by simp)) (none_of_g hg (N8 (D2, _) (by k_mem)).2.2 (by simp only [List.forall_mem_cons]; exact ⟨Ne.symm z1, Ne.symm z2, Ne.symm z5, fun p hp => by simp at hp⟩)) (.mk' (N8.get (by k_mem)) (N8.get (by k_mem)) (N8.get (by k_mem)) (O8.setTo ?_ fun k => ?_) (I4.append I6) ba bd ?_)
      · refine List.nodup_append.mpr ⟨O.set.nd.sublist List.filter_sublist, hnd.sublist List.filter_sublist, ?_⟩
        intro a1 h1 b1 h2 e
        subst e
        simp at h1 h2
        exact h2.2 h1.1
      · have hc : (k ∉ xs ∧ k ∈ ys) ↔ (k ∈ ys ∧ k ∉ xs) := and_comm
        rw [hz k, hc]; simp
      · exact stays_none (hb_stays Y.k HF hg) (N8 (D2, _) (by k_mem)).2.2
end Mine
end

section
open PySem PySem.W PyProof.Rows
theorem Mine.rs_I1 {M : Model} {A : Around} {s : Shared} {v : Value} {Q : Bool → Shared → Prop} {E : Value → Shared → Prop} (h : wpAny M A (truthy v) Q E s) : wpAny M A (truthy v) Q E s := by
  first | (walk1; fail) | exact h
end

section
open PySem PySem.W PyProof.Rows PySem.Builtin.Frozenset PySem.Calls
set_option Elab.async false
set_option maxRecDepth 100000
set_option maxHeartbeats 4000000
namespace Mine

local macro_rules | `(tactic| k_inst) => `(tactic| (refine' OSet.inst ?O ?N ?h1 ?h2; (case N => k_asm); (case O => k_asm); (case h1 => k_mem); (case h2 => k_mem)))
local macro_rules | `(tactic| walk_at "compareOp NotIn int ref") => `(tactic| (k_here; k_dflt (refine' notin_N ?F ?X ?N ?m ?O ?b ?_; (case F => k_asm); (case X => k_asm); (case N => k_asm); (case O => k_asm); (case m => k_mem); (case b => (first | assumption | (unfold scanBound; omega))))))
local macro_rules | `(tactic| walk_at "compareOp In int ref") => `(tactic| (k_here; k_dflt (refine' in_N ?F ?X ?N ?m ?O ?b ?_; (case F => k_asm); (case X => k_asm); (case N => k_asm); (case O => k_asm); (case m => k_mem); (case b => (first | assumption | (unfold scanBound; omega))))))
local macro_rules | `(tactic| walk_at "getAttr ref") => `(tactic| (k_here; (with_reducible show wpAny _ _ (getAttr (Value.ref _) (Str.ofString "_list") _) _ _ _); k_dflt (refine' list_N ?F ?X ?N ?m ?O ?n ?_; (case F => k_asm); (case X => k_asm); (case N => k_asm); (case O => k_asm); (case m => k_mem); (case n => k_mem))))
local macro_rules | `(tactic| walk_at "call builtin:set.add") => `(tactic| (k_here; (with_reducible show wpAny _ _ (call (Value.builtin "set.add") [Value.ref _, Value.int _ _]) _ _ _); k_dflt (refine' add_N ?F ?X ?N ?U ?O ?b ?_; (case F => k_asm); (case X => k_asm); (case N => k_asm); (case O => k_asm); (case U => k_updF); (case b => (first | assumption | (unfold scanBound; omega)))); intro h' tk' o' F' N' O'; (try dsimp only at N')))
local macro_rules | `(tactic| walk_at "getMethod") => `(tactic| (k_here; (with_reducible show wpAny _ _ (getMethod (Value.type "set") _ _) _ _ _); (with_reducible refine' getMethod_setT ?F ?X ?e ?h ?_); k_dflt ((case F => k_asm); (case X => k_asm); (case e => first | with_reducible exact k_set_add | with_reducible exact k_set_remove | with_reducible exact k_set_update | with_reducible exact k_set_init | with_reducible exact k_set_inter | with_reducible exact k_set_diff | with_reducible exact k_set_interu | with_reducible exact k_set_diffu | with_reducible exact k_set_symu); (case h => rfl))))
local macro_rules | `(tactic| walk_at "call builtin:set.remove") => `(tactic| (k_here; (with_reducible show wpAny _ _ (call (Value.builtin "set.remove") [Value.ref _, Value.int _ _]) _ _ _); k_dflt (refine' remove_N ?F ?X ?N ?U ?O ?b ?k ?_; (case F => k_asm); (case X => k_asm); (case N => k_asm); (case O => k_asm); (case U => k_updF); (case b => (first | assumption | (unfold scanBound; omega))); (case k => assumption)); intro h' tk' o' F' N' O'; (try dsimp only at N')))
local macro_rules | `(tactic| walk_at "eval Call Attribute") => `(tactic| (k_here; k_dflt (refine methodCall_star (by rfl) (by rfl) ?_)))
local macro_rules | `(tactic| walk_at "getAttr") => `(tactic| (k_here; (with_reducible show wpAny _ _ (getAttr (Value.type "set") _ _) _ _ _); k_dflt (refine' getAttr_setT ?X ?e ?h ?_; (case X => k_in); (case e => first | with_reducible exact k_set_inter | with_reducible exact k_set_diff | with_reducible exact k_set_interu | with_reducible exact k_set_diffu); (case h => rfl))))
local macro_rules | `(tactic| walk_at "callWith") => `(tactic| (k_here; (with_reducible show wpAny _ _ (callWith _ (Value.builtin _) [] _ []) _ _ _); k_dflt (refine' callWith_starB ?b ?_ ?a ?c; (case a => rfl); (case c => rfl); (case b => exact fun _ => Looks.of_pure rfl))))

section
variable {w : World} {A : Around} {E : Value → Shared → Prop} {s : Shared} {a b : Addr} {o ob : Obj} {xs ys : List Int}
theorem len_S {Q : Value → Shared → Prop} (ho : s.heap.get? a = some o) (hcl : o.cls = .ref 232) (X : (hd.heap_39 w.params).In s.heap) (S : SetO PySem.Challenge.rw_ep5040_01.row.prog w o xs) (hb : xs.length < scanBound)
    (h : ∀ t tk, Q (.int xs.length t) { s with toks := tk }) : wpAny (model PySem.Challenge.rw_ep5040_01.row.prog w) A (call (.builtin "len") [.ref a]) Q E s := by
  have hc : SetCls (model PySem.Challenge.rw_ep5040_01.row.prog w) s.heap o.cls := by rw [hcl]; exact setCls_K X
  have T := looks_typeOf (M := (model PySem.Challenge.rw_ep5040_01.row.prog w)) ho
  rw [hcl] at T
  have L : Looks (model PySem.Challenge.rw_ep5040_01.row.prog w) s.heap (specialOf (.ref a) "__len__") (some (.builtin "set.__len__")) := T.andThen (looks_findIn X (by rfl))
  have hb63 : (xs.length : Int) < 2 ^ 63 := by unfold scanBound at hb; omega
  refine Calls.call_function_entry kind_len plain_len entry_len (args_len1 _) ?_
  unfold Builtin.«len»
  refine wpAny_bind (m := oneArg "len" _) (wpAny_pure ?_)
  refine wpAny_bind (m := callSpecial? (.ref a) (Str.ofString "__len__")) ?_
  unfold callSpecial?
  refine wpAny_bind (L.here ?_)
  dsimp only
  rw [SF.len.bind]
  refine wpAny_holding (wpAny_bind (wpAny_pure ?_))
  dsimp only
  refine wpAny_bind (SF.len.call ho hc (by unfold argsOk; kernel_rfl) ?_)
  unfold Builtin.«frozenset.__len__» Builtin.Frozenset.slot0 slotArgs
  simp only [List.isEmpty_nil, Bool.not_true, Bool.false_eq_true, ↓reduceIte, bind_assoc, List.length_nil, bne_self_eq_false]
  unfold Builtin.Frozenset.addrOf Builtin.Frozenset.sizeOf
  refine wpAny_bind (wpAny_pure ?_)
  try dsimp only
  refine wpAny_bind (wpAny_pure ?_)
  refine wpAny_bind (wpAny_bind (wpAny_setEntries_S ho S fun es ep t hd S' => wpAny_pure ?_))
  have hsz := S'.sz
  show wpAny _ _ (retInt _) _ _ _
  unfold retInt
  refine wpAny_bind (wpAny_mkInt (wpAny_pure ⟨_, rfl, ?_⟩))
  refine wpAny_pure ?_
  dsimp only
  refine wpAny_bind (wpAny_holding (wpAny_pure ?_))
  refine wpAny_bind (wpAny_letGo ?_)
  show wpAny _ _ (if ((es.size : Nat) : Int) < 0 then _ else _) _ _ _
  rw [if_neg (by omega)]
  show wpAny _ _ (if ((es.size : Nat) : Int) ≥ 2 ^ 63 then _ else _) _ _ _
  rw [if_neg (by omega)]
  refine wpAny_bind (wpAny_mkInt (wpAny_pure ⟨_, rfl, ?_⟩))
  rw [hsz]
  exact h _ _
end

theorem iter_check (a : Addr) : checkBuiltinCall "iter" ⟨[.ref a], []⟩ = pure () := by kernel_rfl
theorem iter_entry : entryFor table "iter" = some Builtin.«iter» := entryFor_of_tree (by kernel_rfl)
theorem iter_plain : plainId "iter" = true := by decide +kernel
abbrev litObj (l : Addr) (i : Nat) : Obj := { cls := .type "list_iterator", data := .fields #[.ref l, .int i 0] }
theorem call_iter_list {prog : Program} {w : World} {A : Around} {E : Value → Shared → Prop} {s : Shared} {l : Addr} {items : Array Value} {Q : Value → Shared → Prop} (hl : s.heap.IsList l items) (h : Q (.ref s.heap.objs.size) { s with heap := s.heap.push (litObj l 0) }) :
    wpAny (model prog w) A (call (.builtin "iter") [.ref l]) Q E s := by
  refine wpAny_call (codeAny_call_builtin iter_plain iter_entry ?_)
  rw [iter_check]
  refine wpAny_pure ?_
  unfold Builtin.«iter»
  refine wpAny_bind (m := someArgs "iter" 1 2 _) (wpAny_pure ?_)
  dsimp only
  refine wpAny_bind (wpAny_pyIter_list hl ?_)
  exact wpAny_pure h

theorem iter_ct {w : World} {s₀ : Shared} {mg mb : Str → Option Value} {hb : Heap} {A : Around} {s : Shared} {R : Result → Shared → Prop} {a dx l : Addr} {xs : List Int} (Y : Ct w s₀ mg mb hb A s 900) (O : OSAt w hb s.heap a dx l xs)
    (h : ∀ h' tk' I, KeptBut [] s.heap h' → s.heap.get? I = none → h'.IsListIter I l 0 → R (.ok (.ret (.ref I))) { s with heap := h', toks := tk' }) :
    codeAny (model PySem.Challenge.rw_ep5040_01.row.prog w) A (.call (.ref 114) ⟨[.ref a], []⟩) R s := by
  obtain ⟨hadx, hal, hdl⟩ := O.ne
  obtain ⟨⟨o, vs, n, ha, hl, O, I⟩, hdx, ba, bd, bl⟩ := O
  have HW : ∀ p ∈ [(a, o), (dx, dictObj), (l, PySem.W.listOf vs.toArray n)], s.heap.get? p.1 = some p.2 := by simp [ha, hdx, hl]
  have HF : ∀ p ∈ [(a, o), (dx, dictObj), (l, PySem.W.listOf vs.toArray n)], hb.get? p.1 = none := by simp [ba, bd, bl]
  have KX0 := Y.C.K
  revert KX0
  k_fill
  intro KX0
  refine enter (f := 114) (binds := [(Str.ofString "self", Value.ref a)]) [(a, o), (dx, dictObj), (l, PySem.W.listOf vs.toArray n)] Y.C Y.k HW HF (Nat.lt_trans Y.depth (by unfold recursionLimit; decide)) rfl (by k_is) (BindsTo.of_eq rfl) (locs rfl) ?_
  intro g L' h₁ hg Cg hsz hL F N
  have KX := Cg.K
  have T := Cg.T
  have hh := Y.hand
  clear KX0
  k_steps
  refine call_iter_list ⟨_, N.get (by k_mem), rfl, n, rfl⟩ ?_
  have hI : ∀ b o, s.heap.get? b = some o → h₁.get? b = some o := fun b ob e => by
    by_cases q : b ∈ [(a, o), (dx, dictObj), (l, PySem.W.listOf vs.toArray n)].map (·.1)
    · obtain ⟨p, hp, rfl⟩ := List.mem_map.mp q
      rw [HW p hp] at e; cases e
      exact (N p hp).1
    · exact F.keep b ob (hg b ob e q)
  refine h _ _ _ (fun b ob _ e => Heap.get?_push_of_some _ (hI b ob e)) ?_ ⟨_, Heap.get?_push_size _ rfl, rfl, rfl⟩
  cases e : s.heap.get? h₁.objs.size with
  | none => rfl
  | some ob => exact absurd (Heap.lt_size (hI _ _ e)) (Nat.lt_irrefl _)
end Mine
end

section
open PySem PySem.W PyProof.Rows PySem.Builtin.Frozenset PySem.Calls
set_option Elab.async false
set_option maxRecDepth 100000
set_option maxHeartbeats 4000000
namespace Mine

theorem Ct.at {w : World} {s₀ : Shared} {mg mb : Str → Option Value} {hb : Heap} {A A' : Around} {s s' : Shared} {d d' : Nat} (Y : Ct w s₀ mg mb hb A s d) (hk : KeptBut [] s.heap s'.heap) (hd : A'.depth + d ≤ A.depth + d') (hu : A'.units + d * 8 ≤ A.units + d' * 8) (hh : A'.handled = A.handled) : Ct w s₀ mg mb hb A' s' d' :=
  ⟨Y.C, fun b o e => hk b o (by simp) (Y.k b o e), by have := Y.depth; omega, by have := Y.units; omega, hh.trans Y.hand⟩

theorem OSAt.keeps {w : World} {hb h h' : Heap} {a dx l : Addr} {xs : List Int} {W : List Addr} (O : OSAt w hb h a dx l xs) (k : KeptBut W h h') (h1 : a ∉ W) (h2 : dx ∉ W) (h3 : l ∉ W) : OSAt w hb h' a dx l xs :=
  let ⟨⟨o, vs, n, ha, hl, O', I⟩, hd, b1, b2, b3⟩ := O
  ⟨⟨o, vs, n, k _ _ h1 ha, k _ _ h3 hl, O', I⟩, k _ _ h2 hd, b1, b2, b3⟩

theorem KeptBut.nil {W : List Addr} {h h' : Heap} (k : KeptBut [] h h') : KeptBut W h h' := fun b o _ e => k b o (by simp) e
theorem KeptBut.comp {W : List Addr} {h h' h'' : Heap} (k : KeptBut W h h') (k' : KeptBut W h' h'') : KeptBut W h h'' := fun b o hb e => k' b o hb (k b o hb e)
theorem kept_push {h : Heap} (o : Obj) : KeptBut [] h (h.push o) := fun b ob _ e => Heap.get?_push_of_some _ e
theorem kept_none {h h' : Heap} {I : Addr} (k : KeptBut [] h h') (e : h'.get? I = none) : h.get? I = none := by
  cases q : h.get? I with
  | none => rfl
  | some ob => rw [k _ _ (by simp) q] at e; cases e

theorem kept_all {s g h' : Heap} {L' : Addr} {m : Str → Option Value} {W : List (Addr × Obj)} (HW : ∀ p ∈ W, s.get? p.1 = some p.2) (hg : ∀ b o, s.get? b = some o → b ∉ W.map (·.1) → g.get? b = some o) (F : Fr g L' h' m) (N : ∀ p ∈ W, h'.get? p.1 = some p.2) : KeptBut [] s h' := fun b ob _ e => by
  by_cases q : b ∈ W.map (·.1)
  · obtain ⟨p, hp, rfl⟩ := List.mem_map.mp q
    rw [HW p hp] at e; cases e
    exact N p hp
  · exact F.keep b ob (hg b ob e q)

theorem next_listIter {s : Shared} {I l : Addr} {i : Nat} {M : Model} (h : s.heap.IsListIter I l i) : ∃ g, Looks M s.heap (specialOf (.ref I) "__next__") (some g) := by
  obtain ⟨o, ho, hc, _⟩ := h
  have T := looks_typeOf (M := M) ho
  rw [hc] at T
  exact ⟨.builtin "list_iterator.__next__", T.andThen (Looks.of_pure (by show typeLookup (.type "list_iterator") "__next__" = _; rw [typeLookup_type, builtinLookup_eq_fast]; kernel_rfl))⟩

theorem pyIter_S {w : World} {s₀ : Shared} {mg mb : Str → Option Value} {hb : Heap} {A : Around} {s : Shared} {E : Value → Shared → Prop} {Q : Value → Shared → Prop} {a dx l : Addr} {xs : List Int} (Y : Ct w s₀ mg mb hb A s 890) (O : OSAt w hb s.heap a dx l xs)
    (h : ∀ h' tk' I, KeptBut [] s.heap h' → s.heap.get? I = none → h'.IsListIter I l 0 → Q (.ref I) { s with heap := h', toks := tk' }) : wpAny (model PySem.Challenge.rw_ep5040_01.row.prog w) A (pyIter (.ref a)) Q E s := by
  have X : (hd.heap_39 w.params).In s.heap := Y.C.K.keeps Y.k
  obtain ⟨o, vs, n, ha, hl, O', I'⟩ := O.at_
  have T := looks_typeOf (M := (model PySem.Challenge.rw_ep5040_01.row.prog w)) ha
  rw [O'.cls] at T
  have hs : findIn (hd.heap_39 w.params) (.ref 232) "__iter__" = some (some (.ref 114)) := rfl
  have hf : typeIn (hd.heap_39 w.params) (.ref 114) = some (.type "function") := rfl
  have L : Looks (model PySem.Challenge.rw_ep5040_01.row.prog w) s.heap (specialOf (.ref a) "__iter__") (some (.ref 114)) := T.andThen (looks_findIn X hs)
  have run : wpAny (model PySem.Challenge.rw_ep5040_01.row.prog w) A (call (.ref 114) [.ref a]) (fun v s' => ∃ h' tk' I, v = .ref I ∧ s' = { s with heap := h', toks := tk' } ∧ KeptBut [] s.heap h' ∧ s.heap.get? I = none ∧ h'.IsListIter I l 0) E s :=
    wpAny_call (iter_ct (Y.at (fun _ _ _ e => e) (by omega) (by omega) rfl) O fun h' tk' I hk hn hi => ⟨h', tk', I, rfl, rfl, hk, hn, hi⟩)
  have fin : wpAny (model PySem.Challenge.rw_ep5040_01.row.prog w) A (call (.ref 114) [.ref a] >>= fun v => pure (some v)) (fun r s' => ∃ h' tk' I, r = some (.ref I) ∧ s' = { s with heap := h', toks := tk' } ∧ KeptBut [] s.heap h' ∧ s.heap.get? I = none ∧ h'.IsListIter I l 0) E s :=
    wpAny_bind (wpAny_mono run (fun v s' ⟨h', tk', I, e, r⟩ => wpAny_pure ⟨h', tk', I, by rw [e], r⟩) fun _ _ z => z)
  unfold pyIter
  refine wpAny_bind (L.here ?_)
  refine wpAny_bind (wpAny_mono (Q := fun r s' => ∃ h' tk' I, r = some (.ref I) ∧ s' = { s with heap := h', toks := tk' } ∧ KeptBut [] s.heap h' ∧ s.heap.get? I = none ∧ h'.IsListIter I l 0) ?_ (fun r s' hr => ?_) fun _ _ z => z)
  · unfold callSpecialIfBoundUnlessNone?
    simp only [bindSpecialIfBound?]
    refine wpAny_holding (wpAny_bind (wpAny_bind (wpAny_bind (T.here ((looks_findIn X hs).here ?_)))))
    refine wpAny_bind (wpAny_askSetting (wpAny_ite ?_))
    split
    · refine wpAny_bind ((bind_fn X _ hf).here (wpAny_pure ?_))
      dsimp only
      rw [if_neg (by decide)]
      exact fin
    · refine wpAny_tryCatch (wpAny_bind ((bind_fn X _ hf).here (wpAny_pure ?_)))
      dsimp only
      rw [if_neg (by decide)]
      exact fin
  · obtain ⟨h', tk', I, rfl, rfl, hk, hn, hi⟩ := hr
    obtain ⟨gn, LN⟩ := next_listIter (M := (model PySem.Challenge.rw_ep5040_01.row.prog w)) (s := { s with heap := h', toks := tk' }) hi
    refine wpAny_bind (LN.here ?_)
    exact wpAny_pure (h h' tk' I hk hn hi)
end Mine
end

section
open PySem PySem.W PyProof.Rows PySem.Builtin.Frozenset PySem.Calls
set_option Elab.async false
set_option maxRecDepth 100000
set_option maxHeartbeats 4000000
namespace Mine

theorem hint_S {w : World} {A : Around} {E : Value → Shared → Prop} {s : Shared} {a : Addr} {o : Obj} {xs : List Int} {Q : Bool → Shared → Prop} (ho : s.heap.get? a = some o) (hcl : o.cls = .ref 232) (X : (hd.heap_39 w.params).In s.heap) (S : SetO PySem.Challenge.rw_ep5040_01.row.prog w o xs) (hb : xs.length < scanBound)
    (h : ∀ tk b, Q b { s with toks := tk }) : wpAny (model PySem.Challenge.rw_ep5040_01.row.prog w) A (Builtin.List.listLengthHint (.ref a)) Q E s := by
  have hc : SetCls (model PySem.Challenge.rw_ep5040_01.row.prog w) s.heap o.cls := by rw [hcl]; exact setCls_K X
  have hi : Looks (model PySem.Challenge.rw_ep5040_01.row.prog w) s.heap (isInstance (.ref a) (.type "set")) true := (looks_typeOf ho).andThen hc
  have T := looks_typeOf (M := (model PySem.Challenge.rw_ep5040_01.row.prog w)) ho
  rw [hcl] at T
  have L : Looks (model PySem.Challenge.rw_ep5040_01.row.prog w) s.heap (specialOf (.ref a) "__len__") (some (.builtin "set.__len__")) := T.andThen (looks_findIn X (by rfl))
  unfold Builtin.List.listLengthHint
  refine wpAny_bind (L.here ?_)
  simp only [SF.len.split]
  refine wpAny_bind (hi.here ?_)
  simp only [Bool.not_true, Bool.false_eq_true, if_false]
  rw [if_pos (by decide +kernel)]
  refine wpAny_bind (T.here ?_)
  dsimp only
  refine wpAny_bind (len_S ho hcl X S hb fun t tk => ?_)
  refine wpAny_bind (m := asInt? (.int xs.length t)) (wpAny_pure ?_)
  exact wpAny_pure (h _ _)

theorem extend_run {prog : Program} {w : World} {A : Around} {s : Shared} {R : Result → Shared → Prop} {S I l : Addr} {vs : List Value} {res : Value} {c : Nat} (hh : A.handled = none) (hS : s.heap.get? S = some (PySem.W.listOf #[] c)) (hi : s.heap.IsListIter I l 0) (hl : s.heap.IsList l vs.toArray)
    (hSI : S ≠ I) (hSl : S ≠ l) (hlI : l ≠ I) (hb : vs.length < 200) (hR : ∀ h' tk n, KeptBut [S, I] s.heap h' → h'.get? S = some (PySem.W.listOf vs.toArray n) → R (.ok (.ret res)) { s with heap := h', toks := tk }) :
    codeAny (model prog w) A (.builtin "list.extend.loop" ⟨[.ref S, .ref I, res], []⟩) R s := by
  have W := (Walks.list (prog := prog) (w := w) (A := A.in1) hh I l hlI vs.toArray).toS
  have hsz : vs.toArray.size = vs.length := by simp
  refine codeAny_extend_loopS W (by rw [hsz, sizeLine_eq]; omega) S (by simp; exact ⟨hSI, hSl⟩) res _ 0 s #[] c rfl (Nat.zero_le _) ⟨hi, hl⟩ hS (ItemsOf.nil _) fun s' acc' c' hm hS' hacc => ?_
  rw [Moved.eq_with hm]
  have e : acc' = vs.toArray := by
    obtain ⟨h1, h2⟩ := hacc
    have : acc'.toList = vs := list_of_at (by simpa using h1) fun j v hj => by
      have := h2 j v (by simpa using hj)
      simpa using this
    rw [← this]
  subst e
  exact hR _ _ c' (fun b o hb' e => hm.heap b o (by simpa using hb') e) hS'

theorem list_init_S {w : World} {s₀ : Shared} {mg mb : Str → Option Value} {hb : Heap} {A : Around} {s : Shared} {R : Result → Shared → Prop} {a dx l S : Addr} {xs : List Int} (Y : Ct w s₀ mg mb hb A s 880) (O : OSAt w hb s.heap a dx l xs) (hbd : xs.length < 100)
    (hS : s.heap.get? S = some { cls := .type "list", data := .seq #[] }) (hSa : S ≠ a) (hSd : S ≠ dx) (hSl : S ≠ l) (hbS : hb.get? S = none)
    (h : ∀ h' tk' n vs, KeptBut [S] s.heap h' → IntsAre vs xs → h'.get? S = some (PySem.W.listOf vs.toArray n) → R (.ok (.ret .none)) { s with heap := h', toks := tk' }) :
    wpAny (model PySem.Challenge.rw_ep5040_01.row.prog w) A.in1 (Builtin.«list.__init__» ⟨[.ref S, .ref a], []⟩)
      (fun fin s' => match fin with | .done f => R (.ok f) s' | .again c' => c'.quiet = true ∧ codeAny (model PySem.Challenge.rw_ep5040_01.row.prog w) A c' R s') (fun e s' => R (.error e) s') s := by
  show wpAny _ A.in1 (do let old ← Builtin.List.listItems (.ref S); Builtin.List.listUpdate (.ref S) (fun _ => #[]); letGo old.toList.reverse; Builtin.List.listExtendWith (.ref S) (.ref a) .none) _ _ s
  refine wpAny_bind ?_
  unfold Builtin.List.listItems
  refine wpAny_bind (wpAny_seqItems hS rfl (wpAny_pure ?_))
  show wpAny _ A.in1 (updateSeq S (fun _ => #[]) >>= fun _ => letGo (#[] : Array Value).toList.reverse >>= fun _ => Builtin.List.listExtendWith (.ref S) (.ref a) .none) _ _ s
  refine wpAny_bind (wpAny_updateSeq hS rfl ?_)
  have hS₂ := Heap.get?_update_self (Obj.mapSeq (fun _ => (#[] : Array Value))) hS rfl
  have k1 : KeptBut [S] s.heap (s.heap.update S (Obj.mapSeq (fun _ => (#[] : Array Value)))) := fun b o hb e => (Heap.get?_update_other _ _ (fun q => hb (by rw [q]; exact List.mem_singleton.mpr rfl))).trans e
  refine wpAny_bind (wpAny_letGo ?_)
  generalize s.heap.update S (Obj.mapSeq (fun _ => (#[] : Array Value))) = h1 at *
  have O1 : OSAt w hb h1 a dx l xs := O.keeps k1 (by simpa using Ne.symm hSa) (by simpa using Ne.symm hSd) (by simpa using Ne.symm hSl)
  have Y1 : Ct w s₀ mg mb hb A { s with heap := h1 } 880 := ⟨Y.C, fun b o e => k1 b o (fun q => by rw [List.mem_singleton.mp q, hbS] at e; cases e) (Y.k b o e), Y.depth, Y.units, Y.hand⟩
  have X1 : (hd.heap_39 w.params).In h1 := Y.C.K.keeps Y1.k
  obtain ⟨o, vs, n, ha, hl, O', I'⟩ := O1.at_
  have T := looks_typeOf (M := (model PySem.Challenge.rw_ep5040_01.row.prog w)) ha
  rw [O'.cls] at T
  unfold Builtin.List.listExtendWith
  refine wpAny_bind (Looks.here (s := { s with heap := h1 }) T ?_)
  rw [if_neg (by simp [Builtin.List.listSameRef, hSa])]
  refine wpAny_bind (pyIter_S (Y1.at (A' := A.in1) (d' := 890) (fun _ _ _ e => e) (by simp) (by simp) rfl) O1 fun h2 tk2 I2 k2 hn2 hi2 => ?_)
  refine wpAny_bind (wpAny_holding ?_)
  have ha2 := k2 _ _ (by simp) ha
  have hS2 := k2 _ _ (by simp) hS₂
  refine hint_S (s := { s with heap := h2, toks := tk2 }) ha2 O'.cls (X1.keeps (fun b o e => k2 b o (by simp) e)) O'.set (by unfold scanBound; omega) fun tk3 bb => ?_
  have n1 : S ≠ I2 := by rintro rfl; have q : h1.get? S = none := hn2; rw [hS₂] at q; cases q
  have n2 : l ≠ I2 := by rintro rfl; have q : h1.get? l = none := hn2; rw [hl] at q; cases q
  have go : ∀ h3 tk c, h3.get? S = some (PySem.W.listOf #[] c) → h3.IsListIter I2 l 0 → h3.IsList l vs.toArray → KeptBut [S] h2 h3 → codeAny (model PySem.Challenge.rw_ep5040_01.row.prog w) A (.builtin "list.extend.loop" ⟨[.ref S, .ref I2, .none], []⟩) R { s with heap := h3, toks := tk } := by
    intro h3 tk c e1 e2 e3 k3
    refine extend_run Y.hand e1 e2 e3 n1 hSl n2 (by have := I'.length; omega) fun h4 tk4 n4 k4 e4 => ?_
    refine h h4 tk4 n4 vs (fun b ob hb' e => ?_) I' e4
    have e5 := k3 b ob hb' (k2 b ob (by simp) (k1 b ob hb' e))
    refine k4 b ob ?_ e5
    simp only [List.mem_cons, List.not_mem_nil, or_false, not_or] at hb' ⊢
    refine ⟨hb', ?_⟩
    rintro rfl
    have q : h1.get? b = none := hn2
    rw [k1 b ob (by simpa using hb') e] at q; cases q
  have hl2 := k2 _ _ (by simp) hl
  refine wpAny_ite_split (fun _ => ?_) (fun _ => wpAny_pure ⟨plainId_quiet PySem.F.plain_extend_loop _, go _ _ _ hS2 hi2 ⟨_, hl2, rfl, _, rfl⟩ (fun _ _ _ e => e)⟩)
  refine wpAny_bind (wpAny_rule ?_)
  refine wpAny_bind ?_
  show wpAny _ _ (updateSeq S (·.push .none) >>= fun _ => updateSeq S (·.pop)) _ _ _
  refine wpAny_bind (wpAny_updateSeq hS2 rfl ?_)
  have hS₃ := Heap.get?_update_self (Obj.mapSeq (·.push Value.none)) hS2 rfl
  refine wpAny_updateSeq (hz := by seq_fits) hS₃ rfl ?_
  have hS₄ := Heap.get?_update_self (Obj.mapSeq (·.pop)) hS₃ rfl
  have oth : ∀ b o, b ≠ S → h2.get? b = some o → ((h2.update S (Obj.mapSeq (·.push Value.none))).update S (Obj.mapSeq (·.pop))).get? b = some o :=
    fun b o hb' e => (Heap.get?_update_other _ _ (Ne.symm hb')).trans ((Heap.get?_update_other _ _ (Ne.symm hb')).trans e)
  refine wpAny_pure ⟨plainId_quiet PySem.F.plain_extend_loop _, go _ _ _ hS₄ ?_ ⟨_, oth _ _ (Ne.symm hSl) hl2, rfl, _, rfl⟩ (fun b o hb' e => oth b o (by simpa using hb') e)⟩
  obtain ⟨oi, hoi, r⟩ := hi2
  exact ⟨oi, oth _ _ (Ne.symm n1) hoi, r⟩

theorem list_S {w : World} {s₀ : Shared} {mg mb : Str → Option Value} {hb : Heap} {A : Around} {s : Shared} {E : Value → Shared → Prop} {Q : Value → Shared → Prop} {a dx l : Addr} {xs : List Int} (Y : Ct w s₀ mg mb hb A s 870) (O : OSAt w hb s.heap a dx l xs) (hbd : xs.length < 100)
    (h : ∀ h' tk' D n vs, KeptBut [] s.heap h' → s.heap.get? D = none → IntsAre vs xs → h'.get? D = some (PySem.W.listOf vs.toArray n) → Q (.ref D) { s with heap := h', toks := tk' }) : wpAny (model PySem.Challenge.rw_ep5040_01.row.prog w) A (call (.type "list") [.ref a]) Q E s := by
  refine callType_codes (Q₁ := fun obj s₁ => obj = .ref s.heap.objs.size ∧ s₁ = { s with heap := s.heap.push { cls := .type "list", data := .seq #[] } }) PySem.F.called_list (PySem.F.typeCall_list_1 _) PySem.F.entry_list_init
    (code_list_new _ ⟨rfl, rfl⟩) fun obj s₁ h₁ => ?_
  obtain ⟨rfl, rfl⟩ := h₁
  have hS : (s.heap.push { cls := .type "list", data := .seq #[] }).get? s.heap.objs.size = some { cls := .type "list", data := .seq #[] } := Heap.get?_push_size _ rfl
  have f0 := fresh_at s.heap
  obtain ⟨o, vs, n, ha, hl, _, _⟩ := O.at_
  have hd := O.dict
  have Y' := Y.at (A' := A.in1) (s' := { s with heap := s.heap.push { cls := .type "list", data := .seq #[] } }) (d' := 880) (kept_push _) (by simp) (by simp) rfl
  refine ⟨⟨_, hS, rfl⟩, PySem.F.args_list_init_2 _ _, list_init_S Y' (O.keeps (kept_push _) (by simp) (by simp) (by simp)) hbd hS ?_ ?_ ?_ ?_ fun h' tk' n vs k I e => ?_⟩
  · rintro rfl; rw [ha] at f0; cases f0
  · rintro rfl; rw [hd] at f0; cases f0
  · rintro rfl; rw [hl] at f0; cases f0
  · exact stays_none Y.k f0
  · refine ⟨rfl, h h' tk' _ n vs (fun b ob _ e' => k b ob ?_ (Heap.get?_push_of_some _ e')) f0 I e⟩
    simp; rintro rfl; rw [f0] at e'; cases e'
end Mine
end

section
open PySem PySem.W PyProof.Rows
theorem Mine.rs_RW1 {M : Model} {A : Around} {s : Shared} {v : Value} {Q : Bool → Shared → Prop} {E : Value → Shared → Prop} (h : wpAny M A (truthy v) Q E s) : wpAny M A (truthy v) Q E s := by
  first | (walk1; fail) | exact h
end

section
open PySem PySem.W PyProof.Rows PySem.Builtin.Frozenset PySem.Calls
set_option Elab.async false
set_option maxRecDepth 100000
set_option maxHeartbeats 4000000
namespace Mine

section
variable {prog : Program} {w : World} {A : Around} {s : Shared} {h₀ : Heap} {L : Addr} {m : Str → Option Value} {env : Env} {elt : Expr} {x : Str} {scope : Scope} {cl : List (Str × Addr)} {S : List (Addr × Obj) → Prop} {P : Nat → Value → Prop} {Fn : List Value → List (Addr × Obj) → Prop}
theorem rest_ind {n : Nat} (J : Nat → List Value → List (Addr × Obj) → Prop)
    (turn : ∀ i ys news v I oI C oC D m₂ h tk (E' : Value → Shared → Prop), i < n → J i ys news → P i v → LCg.NsObj oC m₂ → m₂ x = some v → Fr h₀ L h m → News h₀ L h ((I, oI) :: (C, oC) :: (D, LCg.lst ys) :: news) → LCg.Off3 I C D news → ((@Ne Nat I C) ∧ (@Ne Nat I D) ∧ (@Ne Nat C D)) →
      wpAny (model prog w) A (eval elt (compEnvC scope cl C env)) (LCg.CompEnd h₀ L m { s with heap := h, toks := tk } I oI C oC D (LCg.lst ys) S (fun y news' => J (i + 1) (ys ++ [y]) news')) E' { s with heap := h, toks := tk })
    (fin : ∀ ys news, J n ys news → Fn ys news) : ∀ k i ys news, i + k = n → J i ys news → LCg.CompRest prog w A h₀ L m env elt x scope cl s S P Fn k i ys news
  | 0, i, ys, news, hi, hJ => LCg.CompRest.zero (fin _ _ (by rw [← (show i = n by omega)]; exact hJ))
  | k + 1, i, ys, news, hi, hJ => LCg.CompRest.succ fun v I oI C oC D m₂ h tk E' hP hC hx F N off hne =>
      wpAny_mono (turn i ys news v I oI C oC D m₂ h tk E' (by omega) hJ hP hC hx F N off hne)
        (fun y s₂ ⟨h', tk', news', e, F', N', off', hS, r⟩ => ⟨h', tk', news', e, F', N', off', hS, rest_ind J turn fin k (i + 1) (ys ++ [y]) news' (by omega) r⟩) fun _ _ z => z
end
theorem range_size {b : Int} (h : 0 ≤ b) : Builtin.Range.rangeSize 0 b 1 = ((b.toNat : Nat) : Int) := by
  unfold Builtin.Range.rangeSize
  simp
  omega
theorem range_small {b : Int} (h : 0 ≤ b) (h2 : b ≤ 1000) : Builtin.Range.small 0 b 1 = true := by
  have fits : ∀ z : Int, 0 ≤ z → z ≤ 1000 → Builtin.Range.rangeFitsLong z = true := fun z h1 h2 => by
    unfold Builtin.Range.rangeFitsLong
    simp
    omega
  unfold Builtin.Range.small
  rw [range_size h, fits 0 (by omega) (by omega), fits b h h2, fits 1 (by omega) (by omega), fits _ (by omega) (by omega), if_pos (by decide), fits _ (by omega) (by omega)]
  simp
local macro_rules | `(tactic| k_inst) => `(tactic| (refine' OSet.inst ?O ?N ?h1 ?h2; (case N => k_asm); (case O => k_asm); (case h1 => k_mem); (case h2 => k_mem)))
local macro_rules | `(tactic| walk_at "compareOp NotIn int ref") => `(tactic| (k_here; k_dflt (refine' notin_N ?F ?X ?N ?m ?O ?b ?_; (case F => k_asm); (case X => k_asm); (case N => k_asm); (case O => k_asm); (case m => k_mem); (case b => (first | assumption | (unfold scanBound; omega))))))
local macro_rules | `(tactic| walk_at "compareOp In int ref") => `(tactic| (k_here; k_dflt (refine' in_N ?F ?X ?N ?m ?O ?b ?_; (case F => k_asm); (case X => k_asm); (case N => k_asm); (case O => k_asm); (case m => k_mem); (case b => (first | assumption | (unfold scanBound; omega))))))
local macro_rules | `(tactic| walk_at "getAttr ref") => `(tactic| (k_here; (with_reducible show wpAny _ _ (getAttr (Value.ref _) (Str.ofString "_list") _) _ _ _); k_dflt (refine' list_N ?F ?X ?N ?m ?O ?n ?_; (case F => k_asm); (case X => k_asm); (case N => k_asm); (case O => k_asm); (case m => k_mem); (case n => k_mem))))
local macro_rules | `(tactic| walk_at "call builtin:set.add") => `(tactic| (k_here; (with_reducible show wpAny _ _ (call (Value.builtin "set.add") [Value.ref _, Value.int _ _]) _ _ _); k_dflt (refine' add_N ?F ?X ?N ?U ?O ?b ?_; (case F => k_asm); (case X => k_asm); (case N => k_asm); (case O => k_asm); (case U => k_updF); (case b => (first | assumption | (unfold scanBound; omega)))); intro h' tk' o' F' N' O'; (try dsimp only at N')))
local macro_rules | `(tactic| walk_at "getMethod") => `(tactic| (k_here; (with_reducible show wpAny _ _ (getMethod (Value.type "set") _ _) _ _ _); (with_reducible refine' getMethod_setT ?F ?X ?e ?h ?_); k_dflt ((case F => k_asm); (case X => k_asm); (case e => first | with_reducible exact k_set_add | with_reducible exact k_set_remove | with_reducible exact k_set_update | with_reducible exact k_set_init | with_reducible exact k_set_inter | with_reducible exact k_set_diff | with_reducible exact k_set_interu | with_reducible exact k_set_diffu | with_reducible exact k_set_symu); (case h => rfl))))
local macro_rules | `(tactic| walk_at "call builtin:set.remove") => `(tactic| (k_here; (with_reducible show wpAny _ _ (call (Value.builtin "set.remove") [Value.ref _, Value.int _ _]) _ _ _); k_dflt (refine' remove_N ?F ?X ?N ?U ?O ?b ?k ?_; (case F => k_asm); (case X => k_asm); (case N => k_asm); (case O => k_asm); (case U => k_updF); (case b => (first | assumption | (unfold scanBound; omega))); (case k => assumption)); intro h' tk' o' F' N' O'; (try dsimp only at N')))
local macro_rules | `(tactic| walk_at "eval Call Attribute") => `(tactic| (k_here; k_dflt (refine methodCall_star (by rfl) (by rfl) ?_)))
local macro_rules | `(tactic| walk_at "getAttr") => `(tactic| (k_here; (with_reducible show wpAny _ _ (getAttr (Value.type "set") _ _) _ _ _); k_dflt (refine' getAttr_setT ?X ?e ?h ?_; (case X => k_in); (case e => first | with_reducible exact k_set_inter | with_reducible exact k_set_diff | with_reducible exact k_set_interu | with_reducible exact k_set_diffu); (case h => rfl))))
local macro_rules | `(tactic| walk_at "callWith") => `(tactic| (k_here; (with_reducible show wpAny _ _ (callWith _ (Value.builtin _) [] _ []) _ _ _); k_dflt (refine' callWith_starB ?b ?_ ?a ?c; (case a => rfl); (case c => rfl); (case b => exact fun _ => Looks.of_pure rfl))))

def rowL (y : Int) : List Int := (List.range (y.fmod 4).toNat).map fun (i : Nat) => (y + 3 * (i : Int)).fmod 10
theorem row_ct {w : World} {s₀ : Shared} {mg mb : Str → Option Value} {hb : Heap} {A : Around} {s : Shared} {R : Result → Shared → Prop} {y : Int} {ty : Tok} (Y : Ct w s₀ mg mb hb A s 900)
    (h : ∀ h' tk' D n vs, KeptBut [] s.heap h' → s.heap.get? D = none → IntsAre vs (rowL y) → h'.get? D = some (PySem.W.listOf vs.toArray n) → R (.ok (.ret (.ref D))) { s with heap := h', toks := tk' }) :
    codeAny (model PySem.Challenge.rw_ep5040_01.row.prog w) A (.call (.ref 240) ⟨[.int y ty], []⟩) R s := by
  have HW : ∀ p ∈ ([] : List (Addr × Obj)), s.heap.get? p.1 = some p.2 := by simp
  have HF : ∀ p ∈ ([] : List (Addr × Obj)), hb.get? p.1 = none := by simp
  have KX0 := Y.C.K
  revert KX0
  k_fill
  intro KX0
  refine enterC (f := 240) (binds := [(Str.ofString "y", Value.int y ty)]) [] Y.C Y.k HW HF (Nat.lt_trans Y.depth (by unfold recursionLimit; decide)) rfl (by k_is) (BindsTo.of_eq rfl) (kindsX (by rfl)) (by decide +kernel) ?_
  intro g L' h₁ tk cells hg Cg hsz hL F N CY hlt
  have KX := Cg.K
  have T := Cg.T
  have hh := Y.hand
  clear KX0
  obtain ⟨oc, rfl, dc⟩ := CellsAre.one CY
  clear CY
  simp only [List.cons_append, List.nil_append] at N
  have dc' : oc.data = .cell (some (.int y ty)) := dc
  have k1 : KeptBut [] s.heap h₁ := kept_all HW hg F (fun p hp => by simp at hp)
  k_steps
  rename IsRange _ _ _ _ _ _ _ _ => hr
  rename Fr g L' _ _ => F2
  rename News g L' _ _ => N2
  have f0 : 0 ≤ y.fmod 4 := Int.fmod_nonneg_of_pos _ (by decide)
  have f1 : y.fmod 4 < 4 := Int.fmod_lt_of_pos _ (by decide)
  refine LCg.CompSrc.range (n := (y.fmod 4).toNat) hh F2 N2 hr (range_small f0 (by omega)) (range_size f0) (by rw [sizeLine_eq]; omega) (fun gh => rest_ind (n := (y.fmod 4).toNat) (fun i ys news => news = [(L' + 1, oc)] ∧ IntsAre ys ((List.range i).map fun (i : Nat) => (y + 3 * (i : Int)).fmod 10)) ?_ ?_ (y.fmod 4).toNat 0 [] [(L' + 1, oc)] (by omega) ⟨rfl, .nil⟩)
  · rintro i ys news v I oI C oC D m₂ h5 tk5 E' hi ⟨rfl, hJ⟩ ⟨t, rfl⟩ hC hx F5 N5 off hne
    k_steps
    refine LCg.CompEnd.intro F5 N5 [(L' + 1, oc)] (fun p hp => hp) off trivial ⟨rfl, ?_⟩
    rw [List.range_succ, List.map_append, Int.zero_add]
    exact IntsAre.append hJ (.cons _ _ .nil)
  · rintro ys news ⟨rfl, hJ⟩
    k_steps
    rename Fr g L' _ _ => F6
    rename News g L' _ _ => N6
    have k6 : KeptBut [] s.heap _ := kept_all HW hg F6 (fun p hp => by simp at hp)
    exact h _ _ _ _ ys k6 (none_of_g hg (N6 _ (.head _)).2.2 (by simp)) hJ (N6.get (.head _))
end Mine
end

section
open PySem PySem.W PyProof.Rows PySem.Builtin.Frozenset PySem.Calls
set_option Elab.async false
set_option maxRecDepth 100000
set_option maxHeartbeats 4000000
namespace Mine

section
variable {prog : Program} {w : World} {A : Around} {env : Env}
theorem any_mem {ys : List Int} {k : Int} : ys.any (· == k) = decide (k ∈ ys) := by
  by_cases h : k ∈ ys
  · simp [h]
  · simp only [h, decide_false]
    rw [List.any_eq_false]
    intro z hz
    simp
    rintro rfl
    exact h hz
theorem test_ne {scope : Scope} {cl : List (Str × Addr)} {C c : Addr} {x y : Str} {p1 p2 p3 : Pos} {k v : Int} {t u : Tok} {s₃ : Shared} {m₃ : Str → Option Value} {E' : Value → Shared → Prop} {oc : Obj}
    (hoc : s₃.heap.get? c = some oc) (hcell : oc.data = .cell (some (.int v u))) (hcl : cl.lookup y = some c)
    (hk : (compEnvC scope cl C env).scope.kind = .function) (hx : (compEnvC scope cl C env).kindOf x = some .local) (hy : (compEnvC scope cl C env).kindOf y = some .cell)
    (hns : s₃.heap.Ns C m₃) (hm : m₃ x = some (.int k t)) (hdx : (x == ("__debug__" : Str)) = false := by decide) (hdy : (y == ("__debug__" : Str)) = false := by decide) :
    wpAny (model prog w) A (isTrue (.Compare (.Name x p1) [.NotEq] [.Name y p2] p3) (compEnvC scope cl C env) (eval (.Compare (.Name x p1) [.NotEq] [.Name y p2] p3) (compEnvC scope cl C env))) (fun ok s₄ => ok = (k != v) ∧ Keeps s₃ s₄) E' s₃ := by
  refine wpAny_isTrue_Compare1 ?_
  refine wpAny_Name (wpAny_loadName_local hk hx hns hm ?_) hdx
  refine wpAny_Name (wpAny_loadName_cell hk hy hcl ⟨oc, hoc, hcell⟩ ?_) hdy
  refine PyProof.Rows.ne_int ?_
  exact wpAny_truthy_bool ⟨rfl, s₃.heap, _, rfl, fun _ _ e => e⟩
theorem test_inl {scope : Scope} {cl : List (Str × Addr)} {C c l : Addr} {x y : Str} {p1 p2 p3 : Pos} {k : Int} {t : Tok} {s₃ : Shared} {m₃ : Str → Option Value} {E' : Value → Shared → Prop} {oc : Obj} {vs : List Value} {ys : List Int}
    (hl : s₃.heap.IsList l vs.toArray) (hi : IntsAre vs ys) (hoc : s₃.heap.get? c = some oc) (hcell : oc.data = .cell (some (.ref l))) (hcl : cl.lookup y = some c)
    (hk : (compEnvC scope cl C env).scope.kind = .function) (hx : (compEnvC scope cl C env).kindOf x = some .local) (hy : (compEnvC scope cl C env).kindOf y = some .cell)
    (hns : s₃.heap.Ns C m₃) (hm : m₃ x = some (.int k t)) (hdx : (x == ("__debug__" : Str)) = false := by decide) (hdy : (y == ("__debug__" : Str)) = false := by decide) :
    wpAny (model prog w) A (isTrue (.Compare (.Name x p1) [.In] [.Name y p2] p3) (compEnvC scope cl C env) (eval (.Compare (.Name x p1) [.In] [.Name y p2] p3) (compEnvC scope cl C env))) (fun ok s₄ => ok = decide (k ∈ ys) ∧ Keeps s₃ s₄) E' s₃ := by
  refine wpAny_isTrue_Compare1 ?_
  refine wpAny_Name (wpAny_loadName_local hk hx hns hm ?_) hdx
  refine wpAny_Name (wpAny_loadName_cell hk hy hcl ⟨oc, hoc, hcell⟩ ?_) hdy
  refine in_list_ints hl hi ?_
  exact wpAny_truthy_bool ⟨any_mem, s₃.heap, _, rfl, fun _ _ e => e⟩
theorem test_notinl {scope : Scope} {cl : List (Str × Addr)} {C c l : Addr} {x y : Str} {p1 p2 p3 : Pos} {k : Int} {t : Tok} {s₃ : Shared} {m₃ : Str → Option Value} {E' : Value → Shared → Prop} {oc : Obj} {vs : List Value} {ys : List Int}
    (hl : s₃.heap.IsList l vs.toArray) (hi : IntsAre vs ys) (hoc : s₃.heap.get? c = some oc) (hcell : oc.data = .cell (some (.ref l))) (hcl : cl.lookup y = some c)
    (hk : (compEnvC scope cl C env).scope.kind = .function) (hx : (compEnvC scope cl C env).kindOf x = some .local) (hy : (compEnvC scope cl C env).kindOf y = some .cell)
    (hns : s₃.heap.Ns C m₃) (hm : m₃ x = some (.int k t)) (hdx : (x == ("__debug__" : Str)) = false := by decide) (hdy : (y == ("__debug__" : Str)) = false := by decide) :
    wpAny (model prog w) A (isTrue (.Compare (.Name x p1) [.NotIn] [.Name y p2] p3) (compEnvC scope cl C env) (eval (.Compare (.Name x p1) [.NotIn] [.Name y p2] p3) (compEnvC scope cl C env))) (fun ok s₄ => ok = !decide (k ∈ ys) ∧ Keeps s₃ s₄) E' s₃ := by
  refine wpAny_isTrue_Compare1 ?_
  refine wpAny_Name (wpAny_loadName_local hk hx hns hm ?_) hdx
  refine wpAny_Name (wpAny_loadName_cell hk hy hcl ⟨oc, hoc, hcell⟩ ?_) hdy
  refine notin_list_ints hl hi ?_
  exact wpAny_truthy_bool ⟨by rw [any_mem], s₃.heap, _, rfl, fun _ _ e => e⟩
end

def deedL (xs : List Int) (kind v p : Int) (os : List Int) : List Int :=
  if kind = 0 then addL xs v
  else if kind = 1 then (if v ∈ xs then xs else insL xs p v)
  else if kind = 2 then xs.filter (fun k => k != v)
  else if kind = 3 then xs.dropLast
  else if kind = 4 then xs ++ os.filter (fun k => !decide (k ∈ xs))
  else if kind = 5 then xs.filter (fun k => decide (k ∈ os))
  else if kind = 6 then xs.filter (fun k => !decide (k ∈ os))
  else xs.filter (fun k => !decide (k ∈ os)) ++ os.filter (fun k => !decide (k ∈ xs))
def nextL (xs : List Int) (x : Int) : List Int := deedL xs (x.fmod 8) ((x.fdiv 8).fmod 10) ((x.fdiv 80).fmod 7 - 3) (rowL (x.fdiv 80))
end Mine
end

section
open PySem PySem.W PyProof.Rows PySem.Builtin.Frozenset PySem.Calls
set_option Elab.async false
set_option maxRecDepth 100000
set_option maxHeartbeats 4000000
namespace Mine

namespace UF
def bound : Obj := { cls := .type "builtin_function_or_method", data := .fields #[.builtin "dict.fromkeys", .type "dict"] }
theorem slot_get : Slot "classmethod_descriptor" "__get__" "classmethod_descriptor.__get__" :=
  .of (owner := "classmethod_descriptor") (n := "__get__") (by rw [typeLookup_type, builtinLookup_eq_fast]; kernel_rfl) (by decide +kernel) (by decide +kernel) (by decide +kernel)
    (by first | exact .inl (by decide +kernel) | exact .inr (by decide +kernel)) (by rw [isSubtype_type]; kernel_rfl)
theorem entry_get : entryFor table "classmethod_descriptor.__get__" = some Builtin.«classmethod_descriptor.__get__» := entryFor_of_tree (by kernel_rfl)
theorem args_get (a b c : Value) : argsOk "classmethod_descriptor.__get__" ⟨[a, b, c], []⟩ := by unfold argsOk; kernel_rfl
theorem type_fk : typeOf (.builtin "dict.fromkeys") = pure (.type "classmethod_descriptor") := by show builtinType _ = _; rw [builtinType_eq_fast]; kernel_rfl
theorem entry_fk : entryFor table "dict.fromkeys" = some Builtin.«dict.fromkeys» := entryFor_of_tree (by kernel_rfl)
theorem quiet_fk {as : Args} : (Code.builtin "dict.fromkeys" as).quiet = true := Code.quiet_builtin _ (by decide +kernel)
theorem entry_loop : entryFor table "dict.fromkeys.loop" = some Builtin.«dict.fromkeys.loop» := entryFor_of_tree (by kernel_rfl)
theorem plain_loop : plainId "dict.fromkeys.loop" = true := by decide +kernel
theorem type_dict : isType (.type "dict") = pure true := by first | rfl | kernel_rfl | (unfold isType; rw [isSubtype_type]; kernel_rfl)
theorem sub_dict : isSubtype (.type "dict") (.type "dict") = pure true := by rw [isSubtype_type]; kernel_rfl
theorem check_fk (v : Value) : checkBoundCall "dict.fromkeys" ⟨[.type "dict", v], []⟩ = pure () := by first | kernel_rfl | rfl
theorem found {w : World} : findCls (hd.heap_39 w.params) (.type "dict") (.type "type") "fromkeys" = some (.get (.builtin "classmethod_descriptor.__get__") (.builtin "dict.fromkeys") .none (.type "dict")) := rfl
theorem owner_fk : (".".intercalate ("dict.fromkeys".cutAt '.').dropLast) = "dict" := by
  have e0 : "dict.fromkeys".cutAt '.' = ["dict", "fromkeys"] := by first | rfl | decide +kernel
  rw [e0]; decide +kernel
theorem sub_owner : isSubtype (.type "dict") (.type (".".intercalate ("dict.fromkeys".cutAt '.').dropLast)) = pure true := by
  rw [owner_fk, isSubtype_type]; kernel_rfl
theorem run_get {M : Model} {A : Around} {E : Value → Shared → Prop} {h : Heap} {g : Array GenState} {d : Drawn} {t : Nat} {os : OsState} {P : Fin → Shared → Prop} (hq : P (.done (.ret (.ref h.objs.size))) ⟨h.push bound, g, d, t, os⟩) :
    wpAny M A (Builtin.«classmethod_descriptor.__get__» ⟨[.builtin "dict.fromkeys", .none, .type "dict"], []⟩) P E ⟨h, g, d, t, os⟩ := by
  have f1 := type_dict
  have f2 := sub_owner
  repeat (any_goals (first | assumption | wp_step))
theorem typeCall_0 : checkTypeCall "dict" ⟨[], []⟩ = pure () := by kernel_rfl
theorem newCall_0 : checkBuiltinCall "dict.__new__" ⟨[.type "dict"], []⟩ = pure () := by kernel_rfl
theorem argsInit_0 (a : Value) : argsOk "dict.__init__" ⟨[a], []⟩ := by unfold argsOk; kernel_rfl
section
variable {prog : Program} {w : World} {A : Around} {E : Value → Shared → Prop} {s : Shared}
theorem code_dict_new {Q₁ : Value → Shared → Prop} (h : Q₁ (.ref s.heap.objs.size) { s with heap := s.heap.push { cls := .type "dict", data := .dict #[] } }) :
    codeAny (model prog w) A (.call (.builtin "dict.__new__") ⟨[.type "dict"], []⟩) (wants Q₁ E) s := by
  refine codeAny_call_builtin PySem.F.kt_plain_dict_new PySem.F.kt_entry_dict_new (wpAny_of_eq newCall_0 ?_)
  have hsub := PySem.F.kt_sub_dict
  have hmro := PySem.F.kt_mro_dict
  obtain ⟨hp, g, d, tk, os⟩ := s
  unfold Builtin.«dict.__new__»
  wp_walk
  exact h
theorem call_dict0 {Q : Value → Shared → Prop} (h : Q (.ref s.heap.objs.size) { s with heap := s.heap.push { cls := .type "dict", data := .dict #[] } }) : wpAny (model prog w) A (call (.type "dict") []) Q E s := by
  refine callType_codes (Q₁ := fun obj s₁ => obj = .ref s.heap.objs.size ∧ s₁ = { s with heap := s.heap.push { cls := .type "dict", data := .dict #[] } }) PySem.F.kt_called_dict typeCall_0 PySem.F.entry_dict_init (code_dict_new ⟨rfl, rfl⟩) ?_
  rintro obj s₁ ⟨rfl, rfl⟩
  have hg : (s.heap.push { cls := .type "dict", data := .dict #[] }).get? s.heap.objs.size = some { cls := .type "dict", data := .dict #[] } := Heap.get?_push_size _ rfl
  refine ⟨⟨_, hg, rfl⟩, argsInit_0 _, ?_⟩
  obtain ⟨hp, g, d, tk, os⟩ := s
  unfold Builtin.«dict.__init__»
  wp_walk
  exact ⟨rfl, h⟩
end
end UF
end Mine
end

section
open PySem PySem.W PyProof.Rows PySem.Builtin.Frozenset PySem.Calls
set_option Elab.async false
set_option maxRecDepth 100000
set_option maxHeartbeats 4000000
namespace Mine

namespace UF
theorem plain_fk : plainId "dict.fromkeys" = true := by decide +kernel
def keysN (xs : List Int) : List (Int × Value) := xs.map fun k => (k, Value.none)
theorem stored_keysN {xs : List Int} {k : Int} : stored (keysN xs) k Value.none = keysN (addL xs k) := by
  unfold stored keysN addL
  by_cases h : k ∈ xs
  · rw [if_pos h]
    have : (xs.map fun k => (k, Value.none)).any (fun kv => decide (kv.1 = k)) = true := by
      rw [List.any_eq_true]
      exact ⟨(k, Value.none), List.mem_map.mpr ⟨k, h, rfl⟩, by simp⟩
    rw [if_pos this, List.map_map]
    refine List.map_congr_left fun j hj => ?_
    by_cases e : j = k <;> simp [e]
  · rw [if_neg h]
    have : ¬ (xs.map fun k => (k, Value.none)).any (fun kv => decide (kv.1 = k)) = true := by
      rw [List.any_eq_true]
      rintro ⟨kv, h1, h2⟩
      obtain ⟨j, hj, rfl⟩ := List.mem_map.mp h1
      have : j = k := by simpa using h2
      exact h (this ▸ hj)
    rw [if_neg this]
    simp
theorem keysN_length (xs : List Int) : (keysN xs).length = xs.length := by simp [keysN]

section
variable {prog : Program} {w : World} {A : Around} {R : Result → Shared → Prop} {I S : Addr} {fp wr : List Addr} {n : Nat} {P : Nat → Value → Prop} {St : Nat → Heap → Prop} {ys : List Int}
theorem fk_loop (W : Walks prog w A.in1 I fp wr n P St) (hSf : S ∉ fp) (hn : ys.length = n) (hP : HandsInts P ys) (hb : ys.length < 1000) :
    ∀ (k i : Nat) (s : Shared), n - i = k → i ≤ n → St i s.heap → s.heap.DictOf (intKind prog w) S (keysN (updL [] (ys.take i))) →
      (∀ h' tk, KeptBut (S :: wr) s.heap h' → h'.DictOf (intKind prog w) S (keysN (updL [] ys)) → R (.ok (.ret (.ref S))) { s with heap := h', toks := tk }) →
      codeAny (model prog w) A (.builtin "dict.fromkeys.loop" ⟨[.ref S, .ref I, .none], []⟩) R s := by
  have hSw : S ∉ wr := fun h => hSf (W.sub _ h)
  intro k
  induction k with
  | zero =>
    intro i s hk hi hst hd hR
    have hin : i = n := by omega
    subst hin
    refine codeAny_builtin entry_loop ?_
    rw [Around.under_plainId plain_loop _]
    show wpAny _ A.in1 (pyNext (.ref I) >>= _) _ _ s
    refine wpAny_bind (W.done s _ _ hst fun h' tk hm => ?_)
    show wpAny _ A.in1 (ret (Value.ref S)) _ _ _
    refine wpAny_pure (hR h' tk (fun b ob hb' e => hm b ob (fun h => hb' (.tail _ h)) e) ?_)
    rw [List.take_of_length_le (by omega)] at hd
    obtain ⟨o, es, ep, ho, r⟩ := hd
    exact ⟨o, es, ep, hm _ _ hSw ho, r⟩
  | succ k ih =>
    intro i s hk hi hst hd hR
    have hlt : i < n := by omega
    refine codeAny_builtin entry_loop ?_
    rw [Around.under_plainId plain_loop _]
    show wpAny _ A.in1 (pyNext (.ref I) >>= _) _ _ s
    refine wpAny_bind (W.item i s _ _ hlt hst fun v h₁ tk₁ hPv hst₁ hk₁ => ?_)
    obtain ⟨y, t, hy, rfl⟩ := hP i v hPv
    have hd₁ : h₁.DictOf (intKind prog w) S (keysN (updL [] (ys.take i))) := let ⟨o, es, ep, ho, r⟩ := hd; ⟨o, es, ep, hk₁ _ _ hSw ho, r⟩
    have hT : ({ s with heap := h₁, toks := tk₁ } : Shared).TypeIs (.ref S) "dict" := hd₁.typeIs
    show wpAny _ A.in1 (typeOf (.ref S) >>= _) _ _ _
    refine wpAny_bind (wpAny_typeOf hT ?_)
    rw [if_pos (by decide)]
    refine wpAny_bind (wpAny_pure (wpAny_bind (wpAny_holding ?_)))
    have hlen : (updL [] (ys.take i)).length ≤ ys.length := by
      have h1 := updL_length (xs := []) (ys := ys.take i)
      have h2 : (ys.take i).length ≤ ys.length := by rw [List.length_take]; omega
      simp at h1; omega
    refine wpAny_dictSet_pairs (s := { s with heap := h₁, toks := tk₁ }) (intKind_is prog w y t) hd₁ (fun h₂ hd₂ hsb => ?_) (by rw [keysN_length, sizeLine_eq]; omega)
    rw [stored_keysN, ← updL_take hy] at hd₂
    refine wpAny_pure ⟨plainId_quiet plain_loop _, ih (i + 1) { s with heap := h₂, toks := tk₁ + 1 } (by omega) hlt (W.frame _ _ _ hst₁ fun b hb' o e => ?_) hd₂ fun h' tk hkp hd' => ?_⟩
    · rw [hsb.2 b (fun h : b = S => hSf (by rw [← h]; exact hb'))]; exact e
    · refine hR h' tk (fun b ob hb' e => hkp b ob hb' ?_) hd'
      show h₂.get? b = some ob
      rw [hsb.2 b (fun h : b = S => hb' (by rw [h]; exact .head _))]
      exact hk₁ b ob (fun h => hb' (.tail _ h)) e
end

section
variable {prog : Program} {w : World} {A : Around} {E : Value → Shared → Prop} {s : Shared}
theorem callWith_bound {M : Model} {env : Env} {pos : Pos} {u : Addr} {e : Expr} {Q : Value → Shared → Prop}
    (h : wpAny M A (eval e env) (fun v s₁ => s₁.heap.get? u = some bound ∧ wpAny M A (call (.ref u) [v]) Q E s₁) E s)
    (he : starEach [e] env = [(false, eval e env)]) :
    wpAny M A (callWith pos (.ref u) [] (backTo pos (starEach [e] env)) []) Q E s := by
  rw [he]
  unfold callWith
  refine wpAny_bind (wpAny_holding (evalArgs_plain (spliced_cons (wpAny_mono h (fun v s₁ h₁ => spliced_nil (wpAny_bind (wpAny_standAt ?_))) fun _ _ x => x))))
  obtain ⟨ho, hcall⟩ := h₁
  refine wpAny_bind (m := keeperOf (.ref u)) ?_
  unfold keeperOf
  refine wpAny_bind (wpAny_load ho ?_)
  simp only [bound, show (Value.type "builtin_function_or_method" != Value.type "method") = true by decide, show (Value.type "builtin_function_or_method" == Value.type "builtin_function_or_method" || Value.type "builtin_function_or_method" == Value.type "method-wrapper") = true by decide, if_true]
  refine wpAny_pure ?_
  exact wpAny_bind (wpAny_mono hcall (fun r s₂ hr => wpAny_bind (wpAny_holding (wpAny_point (wpAny_pure hr)))) fun _ _ x => x)

theorem fk_tree {R : Result → Shared → Prop} {src : Value} {T : String} (hT : s.TypeIs src T) (hT' : ∀ s' : Shared, KeptBut [] s.heap s'.heap → s'.TypeIs src T) (h1 : (Value.type T == .type "dict") = false) (h2 : (Value.type T == .type "set") = false) (h3 : (Value.type T == .type "frozenset") = false)
    (h : wpAny (model prog w) A.in1 (pyIter src) (fun it s' => codeAny (model prog w) A (.builtin "dict.fromkeys.loop" ⟨[.ref s.heap.objs.size, it, .none], []⟩) R s') (fun e s' => R (.error e) s') { s with heap := s.heap.push { cls := .type "dict", data := .dict #[] } }) :
    wpAny (model prog w) A.in1 (Builtin.«dict.fromkeys» ⟨[.type "dict", src], []⟩) (fun fin s' => match fin with | .done f => R (.ok f) s' | .again c' => c'.quiet = true ∧ codeAny (model prog w) A c' R s') (fun e s' => R (.error e) s') s := by
  unfold Builtin.«dict.fromkeys»
  refine wpAny_bind (wpAny_of_eq type_dict ?_)
  simp only [Bool.not_true, Bool.false_eq_true, if_false]
  refine wpAny_bind (wpAny_of_eq sub_dict ?_)
  simp only [Bool.not_true, Bool.false_eq_true, if_false, List.isEmpty_nil]
  refine wpAny_bind (wpAny_bind (wpAny_rule (wpAny_pure ?_)))
  refine wpAny_bind (wpAny_pure ?_)
  refine wpAny_bind (call_dict0 ?_)
  refine wpAny_holding ?_
  have hg : (s.heap.push { cls := .type "dict", data := .dict #[] }).get? s.heap.objs.size = some { cls := .type "dict", data := .dict #[] } := Heap.get?_push_size _ rfl
  have hD : ({ s with heap := s.heap.push { cls := .type "dict", data := .dict #[] } } : Shared).TypeIs (.ref s.heap.objs.size) "dict" := ⟨_, hg, rfl⟩
  refine wpAny_bind (wpAny_typeOf (hT' { s with heap := s.heap.push { cls := .type "dict", data := .dict #[] } } (kept_push _)) ?_)
  refine wpAny_bind (wpAny_typeOf hD ?_)
  rw [if_neg (by rw [h1]; simp)]
  refine wpAny_bind (wpAny_typeOf hD ?_)
  rw [if_neg (by rw [h2, h3]; simp)]
  refine wpAny_bind (wpAny_mono h (fun it s' hq => ?_) fun _ _ z => z)
  exact wpAny_pure ⟨plainId_quiet plain_loop _, hq⟩
theorem call_fk {x : Addr} {Q : Value → Shared → Prop} {src : Value} {T : String} (hx : s.heap.get? x = some bound) (hT : s.TypeIs src T) (hT' : ∀ s' : Shared, KeptBut [] s.heap s'.heap → s'.TypeIs src T) (h1 : (Value.type T == .type "dict") = false) (h2 : (Value.type T == .type "set") = false) (h3 : (Value.type T == .type "frozenset") = false)
    (h : ∀ A', A'.handled = A.handled → wpAny (model prog w) A'.in1 (pyIter src) (fun it s' => codeAny (model prog w) A' (.builtin "dict.fromkeys.loop" ⟨[.ref s.heap.objs.size, it, .none], []⟩) (fun r s' => match r with | .ok (.ret v) => Q v s' | .ok _ => False | .error e => E e s') s') (fun e s' => E e s') { s with heap := s.heap.push { cls := .type "dict", data := .dict #[] } }) :
    wpAny (model prog w) A (call (.ref x) [src]) Q E s := by
  refine wpAny_call (codeAny_of_tree ?_)
  show wpAny _ A.in1 (callAny (.ref x) ⟨[src], []⟩) _ _ s
  simp only [callAny]
  refine wpAny_bind (wpAny_load hx ?_)
  simp only [bound, show (Value.type "builtin_function_or_method" == Value.type "method" || Value.type "builtin_function_or_method" == Value.type "builtin_function_or_method" || Value.type "builtin_function_or_method" == Value.type "method-wrapper") = true by decide, if_true]
  refine W.KFB.if_so (by decide) ?_
  refine wpAny_bind (wpAny_of_eq (a := ()) (check_fk _) ?_)
  refine wpAny_bind (wpAny_pure (wpAny_pure ?_))
  refine ⟨quiet_fk, codeAny_builtin entry_fk ?_⟩
  show wpAny _ (A.under (Code.builtin "dict.fromkeys" ⟨[.type "dict", src], []⟩)) (Builtin.«dict.fromkeys» ⟨[.type "dict", src], []⟩) _ _ s
  rw [Around.under_plainId plain_fk _]
  exact fk_tree hT hT' h1 h2 h3 (h _ rfl)
end
end UF
end Mine
end

section
open PySem PySem.W PyProof.Rows
theorem Mine.rs_UK3 {M : Model} {A : Around} {s : Shared} {v : Value} {Q : Bool → Shared → Prop} {E : Value → Shared → Prop} (h : wpAny M A (truthy v) Q E s) : wpAny M A (truthy v) Q E s := by
  first | (walk1; fail) | exact h
end

section
open PySem PySem.W PyProof.Rows PySem.Builtin.Frozenset PySem.Calls
set_option Elab.async false
set_option maxRecDepth 100000
set_option maxHeartbeats 4000000
namespace Mine

local macro_rules | `(tactic| k_inst) => `(tactic| (refine' OSet.inst ?O ?N ?h1 ?h2; (case N => k_asm); (case O => k_asm); (case h1 => k_mem); (case h2 => k_mem)))
local macro_rules | `(tactic| walk_at "compareOp NotIn int ref") => `(tactic| (k_here; k_dflt (refine' notin_N ?F ?X ?N ?m ?O ?b ?_; (case F => k_asm); (case X => k_asm); (case N => k_asm); (case O => k_asm); (case m => k_mem); (case b => (first | assumption | (unfold scanBound; omega))))))
local macro_rules | `(tactic| walk_at "compareOp In int ref") => `(tactic| (k_here; k_dflt (refine' in_N ?F ?X ?N ?m ?O ?b ?_; (case F => k_asm); (case X => k_asm); (case N => k_asm); (case O => k_asm); (case m => k_mem); (case b => (first | assumption | (unfold scanBound; omega))))))
local macro_rules | `(tactic| walk_at "getAttr ref") => `(tactic| (k_here; (with_reducible show wpAny _ _ (getAttr (Value.ref _) (Str.ofString "_list") _) _ _ _); k_dflt (refine' list_N ?F ?X ?N ?m ?O ?n ?_; (case F => k_asm); (case X => k_asm); (case N => k_asm); (case O => k_asm); (case m => k_mem); (case n => k_mem))))
local macro_rules | `(tactic| walk_at "call builtin:set.add") => `(tactic| (k_here; (with_reducible show wpAny _ _ (call (Value.builtin "set.add") [Value.ref _, Value.int _ _]) _ _ _); k_dflt (refine' add_N ?F ?X ?N ?U ?O ?b ?_; (case F => k_asm); (case X => k_asm); (case N => k_asm); (case O => k_asm); (case U => k_updF); (case b => (first | assumption | (unfold scanBound; omega)))); intro h' tk' o' F' N' O'; (try dsimp only at N')))
local macro_rules | `(tactic| walk_at "getMethod") => `(tactic| (k_here; (with_reducible show wpAny _ _ (getMethod (Value.type "set") _ _) _ _ _); (with_reducible refine' getMethod_setT ?F ?X ?e ?h ?_); k_dflt ((case F => k_asm); (case X => k_asm); (case e => first | with_reducible exact k_set_add | with_reducible exact k_set_remove | with_reducible exact k_set_update | with_reducible exact k_set_init | with_reducible exact k_set_inter | with_reducible exact k_set_diff | with_reducible exact k_set_interu | with_reducible exact k_set_diffu | with_reducible exact k_set_symu); (case h => rfl))))
local macro_rules | `(tactic| walk_at "call builtin:set.remove") => `(tactic| (k_here; (with_reducible show wpAny _ _ (call (Value.builtin "set.remove") [Value.ref _, Value.int _ _]) _ _ _); k_dflt (refine' remove_N ?F ?X ?N ?U ?O ?b ?k ?_; (case F => k_asm); (case X => k_asm); (case N => k_asm); (case O => k_asm); (case U => k_updF); (case b => (first | assumption | (unfold scanBound; omega))); (case k => assumption)); intro h' tk' o' F' N' O'; (try dsimp only at N')))
local macro_rules | `(tactic| walk_at "eval Call Attribute") => `(tactic| (k_here; k_dflt (refine methodCall_star (by rfl) (by rfl) ?_)))
local macro_rules | `(tactic| walk_at "getAttr") => `(tactic| (k_here; (with_reducible show wpAny _ _ (getAttr (Value.type "set") _ _) _ _ _); k_dflt (refine' getAttr_setT ?X ?e ?h ?_; (case X => k_in); (case e => first | with_reducible exact k_set_inter | with_reducible exact k_set_diff | with_reducible exact k_set_interu | with_reducible exact k_set_diffu); (case h => rfl))))
local macro_rules | `(tactic| walk_at "callWith") => `(tactic| (k_here; (with_reducible show wpAny _ _ (callWith _ (Value.builtin _) [] _ []) _ _ _); k_dflt (refine' callWith_starB ?b ?_ ?a ?c; (case a => rfl); (case c => rfl); (case b => exact fun _ => Looks.of_pure rfl))))

theorem size_gt {w : World} {h : Heap} (X : (hd.heap_39 w.params).In h) : 3 < h.objs.size := by
  have e : ∃ o, (hd.heap_39 w.params).lookup 3 = some o := ⟨_, rfl⟩
  obtain ⟨o, e⟩ := e
  exact Heap.lt_size (X _ _ e)
theorem not_sys {w : World} {h : Heap} {D : Addr} (X : (hd.heap_39 w.params).In h) (hD : h.objs.size ≤ D) : (D == sysModules) = false := by
  have h1 := size_gt X
  have h2 : @LE.le Nat _ h.objs.size D := hD
  have : @Ne Nat D 1 := by omega
  exact beq_eq_false_iff_ne.mpr this

/-- a thing that hands out ints when it is iterated -/
structure Src (w : World) (h : Heap) (v : Value) (ys : List Int) (T : String) (Wm : List Addr) : Prop where
  type : ∀ s : Shared, KeptBut [] h s.heap → s.TypeIs v T
  iter : ∀ (A : Around) (s : Shared) (Q : Value → Shared → Prop) (E : Value → Shared → Prop), A.handled = none → KeptBut [] h s.heap →
    (∀ I fp n P St h2, (∀ A' : Around, A'.handled = none → Walks PySem.Challenge.rw_ep5040_01.row.prog w A' I fp [I] n P St) → HandsInts P ys → ys.length = n → St 0 h2 → (∀ b ∈ fp, b ∈ I :: Wm ∨ ∃ o, h.get? b = some o) → (I ∈ Wm ∨ s.heap.get? I = none) → KeptBut [] s.heap h2 → Q (.ref I) { s with heap := h2 }) →
    wpAny (model PySem.Challenge.rw_ep5040_01.row.prog w) A (pyIter v) Q E s
  notDict : (Value.type T == .type "dict") = false
  notSet : (Value.type T == .type "set") = false
  notFrozen : (Value.type T == .type "frozenset") = false
  old : ∀ b ∈ Wm, ∃ o, h.get? b = some o

theorem fk_run {w : World} {A : Around} {E : Value → Shared → Prop} {s : Shared} {h₀ : Heap} {x : Addr} {v : Value} {ys : List Int} {T : String} {Wm : List Addr} {Q : Value → Shared → Prop} (S : Src w h₀ v ys T Wm) (hk0 : KeptBut [] h₀ s.heap) (hh : A.handled = none) (hx : s.heap.get? x = some UF.bound) (hb : ys.length < 1000)
    (h : ∀ h' tk', KeptBut Wm s.heap h' → h'.DictOf (intKind PySem.Challenge.rw_ep5040_01.row.prog w) s.heap.objs.size (UF.keysN (updL [] ys)) → Q (.ref s.heap.objs.size) { s with heap := h', toks := tk' }) : wpAny (model PySem.Challenge.rw_ep5040_01.row.prog w) A (call (.ref x) [v]) Q E s := by
  refine UF.call_fk hx (S.type s hk0) (fun s' k => S.type s' fun b o hb' e => k b o hb' (hk0 b o hb' e)) S.notDict S.notSet S.notFrozen fun A' hA' => ?_
  have f0 := fresh_at s.heap
  have up : KeptBut [] s.heap (s.heap.push { cls := .type "dict", data := .dict #[] }) := kept_push _
  refine S.iter A'.in1 { s with heap := s.heap.push { cls := .type "dict", data := .dict #[] } } _ _ (hA'.trans hh) (fun b o hb' e => up b o hb' (hk0 b o hb' e)) fun I fp n P St h2 W hP hn hst hfp hI k2 => ?_
  have hDn : (s.heap.push { cls := .type "dict", data := .dict #[] }).DictOf (intKind PySem.Challenge.rw_ep5040_01.row.prog w) s.heap.objs.size [] := Heap.DictOf.new s.heap
  have hD2 : h2.DictOf (intKind PySem.Challenge.rw_ep5040_01.row.prog w) s.heap.objs.size [] := let ⟨o, es, ep, ho, r⟩ := hDn; ⟨o, es, ep, k2 _ _ (by simp) ho, r⟩
  have hDold : ∀ b, (∃ o, h₀.get? b = some o) → b ≠ s.heap.objs.size := by
    rintro b ⟨o, e⟩ rfl
    rw [hk0 _ _ (by simp) e] at f0; cases f0
  have hID : I ≠ s.heap.objs.size := by
    rcases hI with q | q
    · exact hDold _ (S.old _ q)
    · rintro rfl
      have : (s.heap.push { cls := .type "dict", data := .dict #[] }).get? s.heap.objs.size = none := q
      rw [Heap.get?_push_size _ rfl] at this; cases this
  refine UF.fk_loop (W A'.in1 (hA'.trans hh)) (fun q => ?_) hn hP hb n 0 { s with heap := h2 } (by omega) (Nat.zero_le _) hst hD2 fun h' tk k hd => ?_
  · rcases hfp _ q with q | q
    · rcases List.mem_cons.mp q with q | q
      · exact hID q.symm
      · exact hDold _ (S.old _ q) rfl
    · exact hDold _ q rfl
  · refine h h' tk (fun b ob hb' e => k b ob ?_ (k2 b ob (by simp) (up b ob (by simp) e))) hd
    simp only [List.mem_cons, List.not_mem_nil, or_false, not_or]
    refine ⟨(by rintro rfl; rw [f0] at e; cases e), ?_⟩
    rintro rfl
    rcases hI with q | q
    · exact hb' q
    · have q2 : (s.heap.push { cls := .type "dict", data := .dict #[] }).get? b = none := q
      rw [up b ob (by simp) e] at q2; cases q2

section
variable {w : World} {A : Around} {E : Value → Shared → Prop} {s : Shared} {h₀ : Heap} {L : Addr} {m : Str → Option Value} {news : List (Addr × Obj)}
theorem getm_fk {pl : Sem Bool} {Q : Value × List Value → Shared → Prop} (F : Fr h₀ L s.heap m) (N : News h₀ L s.heap news) (X₀ : (hd.heap_39 w.params).In h₀)
    (h : ∀ x h', Fr h₀ L h' m → News h₀ L h' ((x, UF.bound) :: news) → (∀ p ∈ news, p.1 < x) → Q (.ref x, []) { s with heap := h', toks := s.toks + 1 }) :
    wpAny (model PySem.Challenge.rw_ep5040_01.row.prog w) A (getMethod (.type "dict") "fromkeys" pl) Q E s := by
  have X := X₀.keeps F.keep
  have hstub : opaqueClassAbove (.type "dict") = pure none := by kernel_rfl
  have ht : typeOf (.type "dict") = pure (.type "type") := by first | rfl | kernel_rfl
  have L0 : Looks (model PySem.Challenge.rw_ep5040_01.row.prog w) s.heap (typeOf (.type "dict")) (.type "type") := Looks.of_pure ht
  have hg : findIn (hd.heap_39 w.params) (.type "type") "__getattribute__" = some (some (.builtin "type.__getattribute__")) := type_tga
  unfold getMethod specialOf
  refine wpAny_bind (wpAny_bind (L0.here ((looks_findIn X hg).here ?_)))
  dsimp only
  rw [if_pos canon_tga]
  refine wpAny_bind (wpAny_mono (Q := fun v => Q (v, [])) (E := E) ?_ (fun _ _ z => wpAny_pure z) fun _ _ z => z)
  have LO : Looks (model PySem.Challenge.rw_ep5040_01.row.prog w) s.heap (opaqueClassAbove (.type "dict")) none := Looks.of_pure hstub
  refine cls_open X LO L0 hg (looks_hook X (r := none) (by rfl)) (by show subIn (hd.heap_39 w.params) _ _ = _; rfl) UF.found ?_
  show wpAny _ _ (holding [.builtin "dict.fromkeys"] (call (.builtin "classmethod_descriptor.__get__") [.builtin "dict.fromkeys", .none, .type "dict"]) >>= fun v => ret v) _ _ _
  refine wpAny_bind (wpAny_holding (wpAny_call_entry UF.slot_get UF.type_fk UF.entry_get (UF.run_get (h := s.heap) (g := s.gens) (d := s.drawn) (t := s.toks + 1) (os := s.os) ⟨_, rfl, wpAny_pure (wpAny_pure (h _ _ (F.push _) (News.push F N _) fun p hp => Heap.lt_size (N p hp).1))⟩) (UF.args_get _ _ _)))
end
end Mine
end

section
open PySem PySem.W PyProof.Rows
theorem Mine.rs_UK4 {M : Model} {A : Around} {s : Shared} {v : Value} {Q : Bool → Shared → Prop} {E : Value → Shared → Prop} (h : wpAny M A (truthy v) Q E s) : wpAny M A (truthy v) Q E s := by
  first | (walk1; fail) | exact h
end

section
open PySem PySem.W PyProof.Rows PySem.Builtin.Frozenset PySem.Calls
set_option Elab.async false
set_option maxRecDepth 100000
set_option maxHeartbeats 4000000
namespace Mine

local macro_rules | `(tactic| k_inst) => `(tactic| (refine' OSet.inst ?O ?N ?h1 ?h2; (case N => k_asm); (case O => k_asm); (case h1 => k_mem); (case h2 => k_mem)))
local macro_rules | `(tactic| walk_at "compareOp NotIn int ref") => `(tactic| (k_here; k_dflt (refine' notin_N ?F ?X ?N ?m ?O ?b ?_; (case F => k_asm); (case X => k_asm); (case N => k_asm); (case O => k_asm); (case m => k_mem); (case b => (first | assumption | (unfold scanBound; omega))))))
local macro_rules | `(tactic| walk_at "compareOp In int ref") => `(tactic| (k_here; k_dflt (refine' in_N ?F ?X ?N ?m ?O ?b ?_; (case F => k_asm); (case X => k_asm); (case N => k_asm); (case O => k_asm); (case m => k_mem); (case b => (first | assumption | (unfold scanBound; omega))))))
local macro_rules | `(tactic| walk_at "getAttr ref") => `(tactic| (k_here; (with_reducible show wpAny _ _ (getAttr (Value.ref _) (Str.ofString "_list") _) _ _ _); k_dflt (refine' list_N ?F ?X ?N ?m ?O ?n ?_; (case F => k_asm); (case X => k_asm); (case N => k_asm); (case O => k_asm); (case m => k_mem); (case n => k_mem))))
local macro_rules | `(tactic| walk_at "call builtin:set.add") => `(tactic| (k_here; (with_reducible show wpAny _ _ (call (Value.builtin "set.add") [Value.ref _, Value.int _ _]) _ _ _); k_dflt (refine' add_N ?F ?X ?N ?U ?O ?b ?_; (case F => k_asm); (case X => k_asm); (case N => k_asm); (case O => k_asm); (case U => k_updF); (case b => (first | assumption | (unfold scanBound; omega)))); intro h' tk' o' F' N' O'; (try dsimp only at N')))
local macro_rules | `(tactic| walk_at "getMethod") => `(tactic| (k_here; (with_reducible show wpAny _ _ (getMethod (Value.type "set") _ _) _ _ _); (with_reducible refine' getMethod_setT ?F ?X ?e ?h ?_); k_dflt ((case F => k_asm); (case X => k_asm); (case e => first | with_reducible exact k_set_add | with_reducible exact k_set_remove | with_reducible exact k_set_update | with_reducible exact k_set_init | with_reducible exact k_set_inter | with_reducible exact k_set_diff | with_reducible exact k_set_interu | with_reducible exact k_set_diffu | with_reducible exact k_set_symu); (case h => rfl))))
local macro_rules | `(tactic| walk_at "call builtin:set.remove") => `(tactic| (k_here; (with_reducible show wpAny _ _ (call (Value.builtin "set.remove") [Value.ref _, Value.int _ _]) _ _ _); k_dflt (refine' remove_N ?F ?X ?N ?U ?O ?b ?k ?_; (case F => k_asm); (case X => k_asm); (case N => k_asm); (case O => k_asm); (case U => k_updF); (case b => (first | assumption | (unfold scanBound; omega))); (case k => assumption)); intro h' tk' o' F' N' O'; (try dsimp only at N')))
local macro_rules | `(tactic| walk_at "eval Call Attribute") => `(tactic| (k_here; k_dflt (refine methodCall_star (by rfl) (by rfl) ?_)))
local macro_rules | `(tactic| walk_at "getAttr") => `(tactic| (k_here; (with_reducible show wpAny _ _ (getAttr (Value.type "set") _ _) _ _ _); k_dflt (refine' getAttr_setT ?X ?e ?h ?_; (case X => k_in); (case e => first | with_reducible exact k_set_inter | with_reducible exact k_set_diff | with_reducible exact k_set_interu | with_reducible exact k_set_diffu); (case h => rfl))))
local macro_rules | `(tactic| walk_at "callWith") => `(tactic| (k_here; (with_reducible show wpAny _ _ (callWith _ (Value.builtin _) [] _ []) _ _ _); k_dflt (refine' callWith_starB ?b ?_ ?a ?c; (case a => rfl); (case c => rfl); (case b => exact fun _ => Looks.of_pure rfl))))

theorem src_list {w : World} {h : Heap} {l : Addr} {vs : List Value} {ys : List Int} (hl : h.IsList l vs.toArray) (hI : IntsAre vs ys) : Src w h (.ref l) ys "list" [] where
  type := fun s k => let ⟨o, ho, r⟩ := hl; ⟨o, k _ _ (by simp) ho, r.1⟩
  iter := fun A s Q E hh k hq => by
    have hl' : s.heap.IsList l vs.toArray := let ⟨o, ho, r⟩ := hl; ⟨o, k _ _ (by simp) ho, r⟩
    have hne : l ≠ s.heap.objs.size := by obtain ⟨o, ho, _⟩ := hl'; exact Nat.ne_of_lt (Heap.lt_size ho)
    refine wpAny_pyIter_list hl' (hq _ _ _ _ _ _ (fun A' hA' => Walks.list hA' s.heap.objs.size l hne vs.toArray) (walks_list (A := A) (s := s) (prog := PySem.Challenge.rw_ep5040_01.row.prog) (w := w) hh hl' hI).2.1 (by simp [hI.length]) (iter_at hl') ?_ (.inr (fresh_at _)) (kept_push _))
    intro b hb
    rcases List.mem_cons.mp hb with rfl | q
    · exact .inl (.head _)
    · rw [List.mem_singleton.mp q]; obtain ⟨o, ho, _⟩ := hl; exact .inr ⟨o, ho⟩
  notDict := by decide
  notSet := by decide
  notFrozen := by decide
  old := fun b hb => by simp at hb

theorem src_tup {w : World} {h : Heap} {l : Addr} {vs : List Value} {ys : List Int} (hl : h.IsTuple l vs.toArray) (hI : IntsAre vs ys) : Src w h (.ref l) ys "tuple" [] where
  type := fun s k => let ⟨o, ho, r⟩ := hl; ⟨o, k _ _ (by simp) ho, r.1⟩
  iter := fun A s Q E hh k hq => by
    have hl' : s.heap.IsTuple l vs.toArray := let ⟨o, ho, r⟩ := hl; ⟨o, k _ _ (by simp) ho, r⟩
    have hne : l ≠ s.heap.objs.size := by obtain ⟨o, ho, _⟩ := hl'; exact Nat.ne_of_lt (Heap.lt_size ho)
    refine wpAny_pyIter_tuple hl' (hq _ _ _ _ _ _ (fun A' hA' => Walks.tuple hA' s.heap.objs.size l hne vs.toArray) (fun i v hv => ?_) (by simp [hI.length]) ⟨⟨_, Heap.get?_push_size _ rfl, rfl, rfl⟩, let ⟨o, ho, r⟩ := hl'; ⟨o, Heap.get?_push_of_some _ ho, r⟩⟩ ?_ (.inr (fresh_at _)) (kept_push _))
    · obtain ⟨y, t, e, hy⟩ := IntsAre.at hI i v (by simpa using hv)
      exact ⟨y, t, hy, e⟩
    · intro b hb
      rcases List.mem_cons.mp hb with rfl | q
      · exact .inl (.head _)
      · rw [List.mem_singleton.mp q]; obtain ⟨o, ho, _⟩ := hl; exact .inr ⟨o, ho⟩
  notDict := by decide
  notSet := by decide
  notFrozen := by decide
  old := fun b hb => by simp at hb

theorem src_iter {w : World} {h : Heap} {it l : Addr} {vs : List Value} {ys : List Int} (hi : h.IsListIter it l 0) (hl : h.IsList l vs.toArray) (hne : l ≠ it) (hI : IntsAre vs ys) : Src w h (.ref it) ys "list_iterator" [it] where
  type := fun s k => let ⟨o, ho, r⟩ := hi; ⟨o, k _ _ (by simp) ho, r.1⟩
  iter := fun A s Q E hh k hq => by
    have hl' : s.heap.IsList l vs.toArray := let ⟨o, ho, r⟩ := hl; ⟨o, k _ _ (by simp) ho, r⟩
    have hi' : s.heap.IsListIter it l 0 := let ⟨o, ho, r⟩ := hi; ⟨o, k _ _ (by simp) ho, r⟩
    have W := fun (A' : Around) (hA' : A'.handled = none) => Walks.list (prog := PySem.Challenge.rw_ep5040_01.row.prog) (w := w) (A := A') hA' it l hne vs.toArray
    refine (W A hh).self 0 s _ _ ⟨hi', hl'⟩ (hq _ _ _ _ _ s.heap W (fun i v hv => ?_) (by simp [hI.length]) ⟨hi', hl'⟩ ?_ (.inl (.head _)) (fun _ _ _ e => e))
    · obtain ⟨y, t, e, hy⟩ := IntsAre.at hI i v (by simpa using hv)
      exact ⟨y, t, hy, e⟩
    · intro b hb
      rcases List.mem_cons.mp hb with rfl | q
      · exact .inl (.head _)
      · rw [List.mem_singleton.mp q]; obtain ⟨o, ho, _⟩ := hl; exact .inr ⟨o, ho⟩
  notDict := by decide
  notSet := by decide
  notFrozen := by decide
  old := fun b hb => by rw [List.mem_singleton.mp hb]; obtain ⟨o, ho, _⟩ := hi; exact ⟨o, ho⟩

theorem ints_of : ∀ {vs : List Value} {ns : List Int}, vs.length = ns.length → (∀ (j : Nat) (v : Value), vs[j]? = some v → ∃ k t, ns[j]? = some k ∧ v = Value.int k t) → IntsAre vs ns
  | [], [], _, _ => .nil
  | v :: vs, n :: ns, hl, h => by
    obtain ⟨k, t, e1, e2⟩ := h 0 v rfl
    cases e1
    subst e2
    exact .cons _ _ (ints_of (by simpa using hl) fun j v hv => h (j + 1) v (by simpa using hv))
  | [], _ :: _, hl, _ => by simp at hl
  | _ :: _, [], hl, _ => by simp at hl

theorem intKind_val {w : World} {k : Int} {v : Value} (h : (intKind PySem.Challenge.rw_ep5040_01.row.prog w).is k v = true) : ∃ t, v = .int k t := by
  have h' : Value.isInt k v = true := h
  cases v <;> simp [Value.isInt] at h'
  subst h'
  exact ⟨_, rfl⟩

theorem uniq_ct {w : World} {s₀ : Shared} {mg mb : Str → Option Value} {hb : Heap} {A : Around} {s : Shared} {R : Result → Shared → Prop} {v : Value} {T : String} {ys : List Int} (W : List (Addr × Obj)) (Y : Ct w s₀ mg mb hb A s 900) (S : Src w s.heap v ys T (W.map (·.1))) (HW : ∀ p ∈ W, s.heap.get? p.1 = some p.2) (HF : ∀ p ∈ W, hb.get? p.1 = none) (hbd : ys.length < 100)
    (h : ∀ h' tk' D n vs, KeptBut (W.map (·.1)) s.heap h' → s.heap.get? D = none → IntsAre vs (updL [] ys) → h'.get? D = some (PySem.W.listOf vs.toArray n) → R (.ok (.ret (.ref D))) { s with heap := h', toks := tk' }) :
    codeAny (model PySem.Challenge.rw_ep5040_01.row.prog w) A (.call (.ref 28) ⟨[v], []⟩) R s := by
  have KX0 := Y.C.K
  revert KX0
  k_fill
  intro KX0
  refine enter (f := 28) (binds := [(Str.ofString "seq", v)]) W Y.C Y.k HW HF (Nat.lt_trans Y.depth (by unfold recursionLimit; decide)) rfl (by k_is) (BindsTo.of_eq rfl) (locs rfl) ?_
  intro g L' h₁ hg Cg hsz hL F N
  have KX := Cg.K
  have T := Cg.T
  have hh := Y.hand
  clear KX0
  have k1 : KeptBut [] s.heap h₁ := kept_all HW hg F (fun p hp => (N p hp).1)
  k_steps
  refine getm_fk F N KX ?_
  intro x h2 F2 N2 hlt2
  have hx := N2.get (a := x) (o := UF.bound) (.head _)
  have k2 : KeptBut [] s.heap h2 := kept_all HW hg F2 (fun p hp => (N2 p (.tail _ hp)).1)
  refine UF.callWith_bound ?_ (by rfl)
  refine ld F2 rfl ?_
  refine ⟨hx, ?_⟩
  refine fk_run (s := { s with heap := h2, toks := _ }) S k2 hh hx (by omega) fun h3 tk3 k3 hd3 => ?_
  have hL2 : @LT.lt Nat _ L' h2.objs.size := F2.ns.lt
  have k3' : KeptBut (W.map (·.1)) s.heap h3 := fun b o hb' e => k3 b o hb' (k2 b o (by simp) e)
  have F3 : Fr g L' h3 (fun y => List.lookup y [(Str.ofString "seq", v)].reverse) := fr_kept F2 k3 (fun q => by
    obtain ⟨p, hp, e⟩ := List.mem_map.mp q
    exact (N p hp).2.1 e) (fun b hb' => by
    obtain ⟨p, hp, rfl⟩ := List.mem_map.mp hb'
    exact (N p hp).2.2)
  obtain ⟨od, es, ep, hod, hex, hdd, r⟩ := hd3
  have lo : (h2.objs.size == sysModules) = false := not_sys (KX.keeps F2.keep) (Nat.le_refl _)
  have hda : h3.DictAt (intKind PySem.Challenge.rw_ep5040_01.row.prog w) h2.objs.size (UF.keysN (updL [] ys)) ep := ⟨od, es, hod, hex, hdd, r⟩
  clear F N
  k_steps
  refine kdl_call (kdl_dict lo) hh hda (by rw [UF.keysN_length, sizeLine_eq]; have := updL_length (xs := []) (ys := ys); simp at this; omega) fun h4 tk4 acc c4 k4 e4 hacc => ?_
  have n0 : s.heap.get? h3.objs.size = none := by
    cases e : s.heap.get? h3.objs.size with
    | none => rfl
    | some ob =>
      exfalso
      have e2 := k2 _ _ (by simp) e
      by_cases q : h3.objs.size ∈ W.map (·.1)
      · have q1 : @LT.lt Nat _ h3.objs.size h2.objs.size := Heap.lt_size e2
        have q2 : @LT.lt Nat _ h2.objs.size h3.objs.size := Heap.lt_size hod
        omega
      · exact absurd (Heap.lt_size (k3 _ _ q e2)) (Nat.lt_irrefl _)
  refine h h4 tk4 h3.objs.size c4 acc.toList (fun b o hb' e => k4 b o (k3' b o hb' e)) n0 (ints_of ?_ fun j v hv => ?_) (by simpa using e4)
  · have := hacc.1; rw [UF.keysN_length] at this; simpa using this
  · obtain ⟨k, x', e1, e2⟩ := hacc.2 j v (by simpa using hv)
    obtain ⟨t, rfl⟩ := intKind_val e2
    unfold UF.keysN at e1
    rw [List.getElem?_map] at e1
    obtain ⟨k', q1, q2⟩ := Option.map_eq_some_iff.mp e1
    cases q2
    exact ⟨k, t, q1, rfl⟩
end Mine
end

section
open PySem PySem.W PyProof.Rows PySem.Builtin.Frozenset PySem.Calls
set_option Elab.async false
set_option maxRecDepth 100000
set_option maxHeartbeats 4000000
namespace Mine

namespace LI
theorem slot_ga : Slot "list_iterator" "__getattribute__" "object.__getattribute__" :=
  .of (owner := "object") (n := "__getattribute__") (by rw [typeLookup_type, builtinLookup_eq_fast]; kernel_rfl) (by decide +kernel) (by decide +kernel) (by decide +kernel)
    (by first | exact .inl (by decide +kernel) | exact .inr (by decide +kernel)) (by rw [isSubtype_type]; kernel_rfl)
theorem entry_ga : entryFor table "object.__getattribute__" = some Builtin.«object.__getattribute__» := entryFor_of_tree (by kernel_rfl)
theorem args_ga (a b : Value) : argsOk "object.__getattribute__" ⟨[a, b], []⟩ := by unfold argsOk; kernel_rfl
theorem lk_class : typeLookup (.type "list_iterator") "__class__" = pure (some (.builtin "object.__class__")) := by rw [typeLookup_type, builtinLookup_eq_fast]; kernel_rfl
theorem sub_owner : isSubtype (.type "list_iterator") (.type (".".intercalate ("object.__class__".cutAt '.').dropLast)) = pure true := by
  rw [F.owner_object_class, isSubtype_type]; kernel_rfl
theorem sub_set : isSubtype (.type "list_iterator") (.type "set") = pure false := by rw [isSubtype_type]; kernel_rfl
theorem sub_dict : isSubtype (.type "list_iterator") (.type "dict") = pure false := by rw [isSubtype_type]; kernel_rfl
section
variable {prog : Program} {w : World} {A : Around} {E : Value → Shared → Prop} {h : Heap} {g : Array GenState} {d : Drawn} {t : Nat} {os : OsState} {a : Addr} {o : Obj}

theorem cls_get {R : Result → Shared → Prop} (hx : h.get? a = some o) (hc : o.cls = .type "list_iterator") (hq : R (.ok (.ret (.type "list_iterator"))) ⟨h, g, d, t, os⟩) :
    codeAny (model prog w) A (.call (.builtin "getset_descriptor.__get__") ⟨[.builtin "object.__class__", .ref a, .type "list_iterator"], []⟩) R ⟨h, g, d, t, os⟩ := by
  have q1 : (⟨h, g, d, t, os⟩ : Shared).TypeIs (.ref a) "list_iterator" := ⟨_, hx, hc⟩
  have q2 : (⟨h, g, d, t, os⟩ : Shared).TypeIs (.builtin "object.__class__") "getset_descriptor" := F.typeOf_object_class
  have q3 := sub_owner
  refine codeAny_call_builtin F.slot_gs_get.plain F.entry_gs_get (F.slot_gs_get.check _ _ _ _ _ _ _ _ q2 (F.args_gs_get _ _ _) ?_)
  repeat (any_goals (first | assumption | wp_step))
  refine ⟨Code.quiet_builtin _ (by decide +kernel), codeAny_builtin F.entry_object_class ?_⟩
  repeat (any_goals (first | assumption | wp_step))

theorem cls_road {tk : Tok} {Q : Value → Shared → Prop} (hx : h.get? a = some o) (hc : o.cls = .type "list_iterator") (hq : Q (.type "list_iterator") ⟨h, g, d, t, os⟩) : wpAny (model prog w) A (getAttrBy (.ref a) (.str "__class__" tk) false) Q E ⟨h, g, d, t, os⟩ := by
  have q1 : (⟨h, g, d, t, os⟩ : Shared).TypeIs (.ref a) "list_iterator" := ⟨_, hx, hc⟩
  have q2 : (⟨h, g, d, t, os⟩ : Shared).TypeIs (.builtin "object.__class__") "getset_descriptor" := F.typeOf_object_class
  have q3 := slot_ga.lookup
  have q4 := slot_ga.bind (.ref a)
  have q5 := lk_class
  have q6 := F.typeOf_object_class
  have q7 := F.slot_gs_get.lookup
  have q8 := F.slot_gs_set.lookup
  repeat (any_goals (first | assumption | wp_step))
  refine codeAny_call_builtin slot_ga.plain entry_ga (slot_ga.check _ _ _ _ _ _ _ _ q1 (args_ga _ _) ?_)
  repeat (any_goals (first | assumption | wp_step))
  refine cls_get hx hc ?_
  repeat (any_goals (first | assumption | wp_step))

theorem nested {T : String} {dep : Int} {tk : Tok} {Q : Fin → Shared → Prop} (hx : h.get? a = some o) (hc : o.cls = .type "list_iterator") (hne : (Value.type "list_iterator" == Value.type T) = false) (hty : typeOf (.type T) = pure (.type "type"))
    (hsub : isSubtype (.type "list_iterator") (.type T) = pure false) (hq : Q (.done (.ret (.bool false))) ⟨h, g, d, t + 1, os⟩) :
    wpAny (model prog w) A (Builtin.«isinstance.nested» ⟨[.ref a, .type T, .int dep tk], []⟩) Q E ⟨h, g, d, t, os⟩ := by
  have q1 : (⟨h, g, d, t, os⟩ : Shared).TypeIs (.ref a) "list_iterator" := ⟨_, hx, hc⟩
  repeat (any_goals (first | assumption | (with_reducible apply cls_road hx hc) | wp_step))
end
end LI

/-- what isinstance says -/
def IsI (w : World) (h : Heap) (v : Value) (T : String) (b : Bool) : Prop := ∀ (A : Around) (s : Shared) (Q : Value → Shared → Prop) (E : Value → Shared → Prop), KeptBut [] h s.heap → (∀ tk, Q (.bool b) { s with toks := tk }) → wpAny (model PySem.Challenge.rw_ep5040_01.row.prog w) A (call (.builtin "isinstance") [v, .type T]) Q E s

theorem isi_list_set {w : World} {h : Heap} {a : Addr} {o : Obj} (hx : h.get? a = some o) (hc : o.cls = .type "list") : IsI w h (.ref a) "set" false := fun _ _ _ _ k q => IsiPair.list_set (k _ _ (by simp) hx) hc (q _)
theorem isi_list_dict {w : World} {h : Heap} {a : Addr} {o : Obj} (hx : h.get? a = some o) (hc : o.cls = .type "list") : IsI w h (.ref a) "dict" false := fun _ _ _ _ k q => IsiPair.list_dict (k _ _ (by simp) hx) hc (q _)
theorem isi_tup_set {w : World} {h : Heap} {a : Addr} {o : Obj} (hx : h.get? a = some o) (hc : o.cls = .type "tuple") : IsI w h (.ref a) "set" false := fun _ _ _ _ k q => IsiPair.tuple_set (k _ _ (by simp) hx) hc (q _)
theorem isi_tup_dict {w : World} {h : Heap} {a : Addr} {o : Obj} (hx : h.get? a = some o) (hc : o.cls = .type "tuple") : IsI w h (.ref a) "dict" false := fun _ _ _ _ k q => IsiPair.tuple_dict (k _ _ (by simp) hx) hc (q _)
theorem isi_dict_set {w : World} {h : Heap} {a : Addr} {o : Obj} (hx : h.get? a = some o) (hc : o.cls = .type "dict") : IsI w h (.ref a) "set" false := fun _ _ _ _ k q => IsiPair.dict_set (k _ _ (by simp) hx) hc (q _)
theorem isi_dict_dict {w : World} {h : Heap} {a : Addr} {o : Obj} (hx : h.get? a = some o) (hc : o.cls = .type "dict") : IsI w h (.ref a) "dict" true := fun _ s _ _ k q => IsiPair.dict_dict (k _ _ (by simp) hx) hc (q s.toks)
theorem isi_it_set {w : World} {h : Heap} {a : Addr} {o : Obj} (hx : h.get? a = some o) (hc : o.cls = .type "list_iterator") : IsI w h (.ref a) "set" false := fun _ s _ _ k q => by
  obtain ⟨hp, g, d, t, os⟩ := s
  exact call_isinstance_of (LI.nested (k _ _ (by simp) hx) hc (by decide) (by first | rfl | kernel_rfl) LI.sub_set (q _)) (by intro e; cases e)
theorem isi_it_dict {w : World} {h : Heap} {a : Addr} {o : Obj} (hx : h.get? a = some o) (hc : o.cls = .type "list_iterator") : IsI w h (.ref a) "dict" false := fun _ s _ _ k q => by
  obtain ⟨hp, g, d, t, os⟩ := s
  exact call_isinstance_of (LI.nested (k _ _ (by simp) hx) hc (by decide) (by first | rfl | kernel_rfl) LI.sub_dict (q _)) (by intro e; cases e)
theorem isi_os_set {w : World} {h : Heap} {a : Addr} {o : Obj} (X : (hd.heap_39 w.params).In h) (hx : h.get? a = some o) (hc : o.cls = .ref 232) : IsI w h (.ref a) "set" true := fun A s Q E k q => by
  have X' : (hd.heap_39 w.params).In s.heap := X.keeps fun b o e => k b o (by simp) e
  have T := looks_typeOf (M := (model PySem.Challenge.rw_ep5040_01.row.prog w)) (k _ _ (by simp) hx)
  rw [hc] at T
  have LI : Looks (model PySem.Challenge.rw_ep5040_01.row.prog w) s.heap (isInstance (.ref a) (.type "set")) true := T.andThen (setCls_K X')
  refine call_isinstance_of ?_ (by intro e; cases e)
  unfold Builtin.«isinstance.nested»
  refine wpAny_bind (T.here ?_)
  rw [if_neg (by decide)]
  refine wpAny_bind (m := typeOf (.type "set")) (wpAny_of_eq (a := .type "type") (by kernel_rfl) ?_)
  show wpAny _ _ (if (Value.type "type" == Value.type "type") = true then _ else _) _ _ s
  rw [if_pos (by decide)]
  refine wpAny_bind (wpAny_bind (m := isType (.type "set")) (wpAny_pure (a := true) ?_))
  refine wpAny_bind (m := isInstance (.ref a) (.type "set")) (LI.here ?_)
  exact wpAny_pure (a := true) (wpAny_pure (q s.toks))
end Mine
end

section
open PySem PySem.W PyProof.Rows
theorem Mine.rs_IN1 {M : Model} {A : Around} {s : Shared} {v : Value} {Q : Bool → Shared → Prop} {E : Value → Shared → Prop} (h : wpAny M A (truthy v) Q E s) : wpAny M A (truthy v) Q E s := by
  first | (walk1; fail) | exact h
end

section
open PySem PySem.W PyProof.Rows PySem.Builtin.Frozenset PySem.Calls
set_option Elab.async false
set_option maxRecDepth 100000
set_option maxHeartbeats 4000000
namespace Mine

local macro_rules | `(tactic| k_inst) => `(tactic| (refine' OSet.inst ?O ?N ?h1 ?h2; (case N => k_asm); (case O => k_asm); (case h1 => k_mem); (case h2 => k_mem)))
local macro_rules | `(tactic| walk_at "compareOp NotIn int ref") => `(tactic| (k_here; k_dflt (refine' notin_N ?F ?X ?N ?m ?O ?b ?_; (case F => k_asm); (case X => k_asm); (case N => k_asm); (case O => k_asm); (case m => k_mem); (case b => (first | assumption | (unfold scanBound; omega))))))
local macro_rules | `(tactic| walk_at "compareOp In int ref") => `(tactic| (k_here; k_dflt (refine' in_N ?F ?X ?N ?m ?O ?b ?_; (case F => k_asm); (case X => k_asm); (case N => k_asm); (case O => k_asm); (case m => k_mem); (case b => (first | assumption | (unfold scanBound; omega))))))
local macro_rules | `(tactic| walk_at "getAttr ref") => `(tactic| (k_here; (with_reducible show wpAny _ _ (getAttr (Value.ref _) (Str.ofString "_list") _) _ _ _); k_dflt (refine' list_N ?F ?X ?N ?m ?O ?n ?_; (case F => k_asm); (case X => k_asm); (case N => k_asm); (case O => k_asm); (case m => k_mem); (case n => k_mem))))
local macro_rules | `(tactic| walk_at "call builtin:set.add") => `(tactic| (k_here; (with_reducible show wpAny _ _ (call (Value.builtin "set.add") [Value.ref _, Value.int _ _]) _ _ _); k_dflt (refine' add_N ?F ?X ?N ?U ?O ?b ?_; (case F => k_asm); (case X => k_asm); (case N => k_asm); (case O => k_asm); (case U => k_updF); (case b => (first | assumption | (unfold scanBound; omega)))); intro h' tk' o' F' N' O'; (try dsimp only at N')))
local macro_rules | `(tactic| walk_at "getMethod") => `(tactic| (k_here; (with_reducible show wpAny _ _ (getMethod (Value.type "set") _ _) _ _ _); (with_reducible refine' getMethod_setT ?F ?X ?e ?h ?_); k_dflt ((case F => k_asm); (case X => k_asm); (case e => first | with_reducible exact k_set_add | with_reducible exact k_set_remove | with_reducible exact k_set_update | with_reducible exact k_set_init | with_reducible exact k_set_inter | with_reducible exact k_set_diff | with_reducible exact k_set_interu | with_reducible exact k_set_diffu | with_reducible exact k_set_symu); (case h => rfl))))
local macro_rules | `(tactic| walk_at "call builtin:set.remove") => `(tactic| (k_here; (with_reducible show wpAny _ _ (call (Value.builtin "set.remove") [Value.ref _, Value.int _ _]) _ _ _); k_dflt (refine' remove_N ?F ?X ?N ?U ?O ?b ?k ?_; (case F => k_asm); (case X => k_asm); (case N => k_asm); (case O => k_asm); (case U => k_updF); (case b => (first | assumption | (unfold scanBound; omega))); (case k => assumption)); intro h' tk' o' F' N' O'; (try dsimp only at N')))
local macro_rules | `(tactic| walk_at "eval Call Attribute") => `(tactic| (k_here; k_dflt (refine methodCall_star (by rfl) (by rfl) ?_)))
local macro_rules | `(tactic| walk_at "getAttr") => `(tactic| (k_here; (with_reducible show wpAny _ _ (getAttr (Value.type "set") _ _) _ _ _); k_dflt (refine' getAttr_setT ?X ?e ?h ?_; (case X => k_in); (case e => first | with_reducible exact k_set_inter | with_reducible exact k_set_diff | with_reducible exact k_set_interu | with_reducible exact k_set_diffu); (case h => rfl))))
local macro_rules | `(tactic| walk_at "callWith") => `(tactic| (k_here; (with_reducible show wpAny _ _ (callWith _ (Value.builtin _) [] _ []) _ _ _); k_dflt (refine' callWith_starB ?b ?_ ?a ?c; (case a => rfl); (case c => rfl); (case b => exact fun _ => Looks.of_pure rfl))))

def ListOfV (w : World) (s₀ : Shared) (mg mb : Str → Option Value) (hb h : Heap) (v : Value) (ys : List Int) : Prop := ∀ (A' : Around) (s' : Shared) (Q : Value → Shared → Prop) (E : Value → Shared → Prop), Ct w s₀ mg mb hb A' s' 870 → KeptBut [] h s'.heap →
    (∀ h' tk' D n vs, KeptBut [] s'.heap h' → s'.heap.get? D = none → IntsAre vs ys → h'.get? D = some (PySem.W.listOf vs.toArray n) → Q (.ref D) { s' with heap := h', toks := tk' }) → wpAny (model PySem.Challenge.rw_ep5040_01.row.prog w) A' (call (.type "list") [v]) Q E s'

theorem init_list_ct {w : World} {s₀ : Shared} {mg mb : Str → Option Value} {hb : Heap} {A : Around} {s : Shared} {R : Result → Shared → Prop} {a dx v : Addr} {o : Obj} {ys : List Int} {b1 b2 : Bool} (Y : Ct w s₀ mg mb hb A s 860) (ha : s.heap.get? a = some o) (hdx : s.heap.get? dx = some dictObj) (ba : hb.get? a = none) (bd : hb.get? dx = none) (hf : FreshSet o) (hcl : o.cls = .ref 232) (hod : o.dict = some dx) (hsl : o.slots = #[]) (hfr : o.isFreed = false)
    (h1 : IsI w s.heap (.ref v) "set" b1) (h2 : b1 = false → IsI w s.heap (.ref v) "dict" b2) (hor : (b1 || b2) = true) (hl : ListOfV w s₀ mg mb hb s.heap (.ref v) ys) (hn : ys.Nodup) (hbd : ys.length < 100)
    (h : ∀ h' tk' D, KeptBut [a] s.heap h' → s.heap.get? D = none → OSAt w hb h' a dx D ys → R (.ok (.ret .none)) { s with heap := h', toks := tk' }) :
    codeAny (model PySem.Challenge.rw_ep5040_01.row.prog w) A (.call (.ref 44) ⟨[.ref a, .ref v], []⟩) R s := by
  have HW : ∀ p ∈ [(a, o), (dx, dictObj)], s.heap.get? p.1 = some p.2 := by simp [ha, hdx]
  have HF : ∀ p ∈ [(a, o), (dx, dictObj)], hb.get? p.1 = none := by simp [ba, bd]
  have hadx : @Ne Nat a dx := by
    rintro rfl
    rw [ha] at hdx; cases hdx
    exact absurd hcl (by intro e; cases e)
  have KX0 := Y.C.K
  revert KX0
  k_fill
  intro KX0
  refine enter (f := 44) (binds := [(Str.ofString "self", Value.ref a), (Str.ofString "d", Value.ref v)]) [(a, o), (dx, dictObj)] Y.C Y.k HW HF (Nat.lt_trans Y.depth (by unfold recursionLimit; decide)) rfl (by k_is) (binds_K (KX0.keeps fun b o e => Y.k b o e) rfl (by k_is) rfl rfl rfl) (locs rfl) ?_
  intro g L' h₁ hg Cg hsz hL F N
  have KX := Cg.K
  have T := Cg.T
  have hh := Y.hand
  clear KX0
  have k1 : KeptBut [] s.heap h₁ := kept_all HW hg F (fun p hp => (N p hp).1)
  k_steps
  refine h1 _ _ _ _ k1 fun tk1 => ?_
  cases b1 with
  | true =>
    k_steps
    refine hl _ _ _ _ (Y.at (A' := _) (d' := 870) k1 (by show A.depth + 1 + 860 ≤ A.depth + 870; omega) (by show A.units + 3 + 860 * 8 ≤ A.units + 870 * 8; omega) rfl) k1 fun h2 tk2 D n vs k2 n0 I2 hD => ?_
    have F2 := fr_kept0 F k2
    have N2 : News g L' h2 ((D, PySem.W.listOf vs.toArray n) :: [(a, o), (dx, dictObj)]) := fun p hp => by
      rcases List.mem_cons.mp hp with rfl | hp
      · refine ⟨hD, ?_, ?_⟩
        · exact ne_none n0 (F.ns.choose_spec.choose_spec.choose_spec.1)
        · exact stays_none (g := h₁) (fun b ob e => F.keep b ob e) n0
      · exact ⟨k2 _ _ (by simp) (N p hp).1, (N p hp).2⟩
    have nDa := ne_none n0 (N.get (a := a) (by k_mem))
    have nDd := ne_none n0 (N.get (a := dx) (by k_mem))
    clear F N
    k_steps
    refine slot_N F2 KX N2 (by k_updF) (by k_mem) hcl (SetO.notCls (prog := PySem.Challenge.rw_ep5040_01.row.prog) (w := w) hf.set) hod hfr ?_
    intro h3 tk3 F3 N3
    clear F2 N2
    have hf1 : FreshSet { o with slots := (o.slots ++ Array.replicate (0 + 1 - o.slots.size) none).setIfInBounds 0 (some (.ref D)) } := ⟨hf.data⟩
    have O1 : OSet w { o with slots := (o.slots ++ Array.replicate (0 + 1 - o.slots.size) none).setIfInBounds 0 (some (.ref D)) } dx D [] := ⟨hcl, hod, by show (o.slots ++ Array.replicate (0 + 1 - o.slots.size) none).setIfInBounds 0 (some (.ref D)) = _; rw [hsl]; rfl, hf1.set⟩
    generalize ({ o with slots := (o.slots ++ Array.replicate (0 + 1 - o.slots.size) none).setIfInBounds 0 (some (.ref D)) } : Obj) = o1 at *
    k_steps
    rename Fr g L' _ _ => F4
    rename News g L' _ _ => N4
    refine init_call hh (KX.keeps F4.keep) (N4.get (a := a) (by k_mem)) O1.cls hf1 ⟨_, N4.get (by k_mem), rfl, _, rfl⟩ I2 (by unfold scanBound; omega) ?_
    intro h5 tk5 o5 k5 e5 hh5 S5
    obtain ⟨F5, N5⟩ := upd_kept F4 N4 (by k_updF) k5 e5
    clear F4 N4
    k_steps
    have N6 : News g L' h5 [(D, PySem.W.listOf vs.toArray n), (a, o5), (dx, dictObj)] := N5
    have O5 := O1.head hh5 S5
    have kD : s.heap.get? D = none := kept_none k1 n0
    refine h _ _ D (fun b ob hb' e => ?_) kD (.mk' (N6.get (by k_mem)) (N6.get (by k_mem)) (N6.get (by k_mem)) (O5.setTo hn fun k => by rw [mem_updL]; simp) I2 ba bd (stays_none Y.k kD))
    by_cases q : b = dx
    · subst q; rw [hdx] at e; cases e; exact N6.get (by k_mem)
    · exact F5.keep b ob (hg b ob e (by simpa using ⟨by simpa using hb', q⟩))
  | false =>
    k_steps
    refine h2 rfl _ _ _ _ k1 fun tk1 => ?_
    cases b2 with
    | false => simp at hor
    | true =>
    k_steps
    refine hl _ _ _ _ (Y.at (A' := _) (d' := 870) k1 (by show A.depth + 1 + 860 ≤ A.depth + 870; omega) (by show A.units + 3 + 860 * 8 ≤ A.units + 870 * 8; omega) rfl) k1 fun h2 tk2 D n vs k2 n0 I2 hD => ?_
    have F2 := fr_kept0 F k2
    have N2 : News g L' h2 ((D, PySem.W.listOf vs.toArray n) :: [(a, o), (dx, dictObj)]) := fun p hp => by
      rcases List.mem_cons.mp hp with rfl | hp
      · refine ⟨hD, ?_, ?_⟩
        · exact ne_none n0 (F.ns.choose_spec.choose_spec.choose_spec.1)
        · exact stays_none (g := h₁) (fun b ob e => F.keep b ob e) n0
      · exact ⟨k2 _ _ (by simp) (N p hp).1, (N p hp).2⟩
    have nDa := ne_none n0 (N.get (a := a) (by k_mem))
    have nDd := ne_none n0 (N.get (a := dx) (by k_mem))
    clear F N
    k_steps
    refine slot_N F2 KX N2 (by k_updF) (by k_mem) hcl (SetO.notCls (prog := PySem.Challenge.rw_ep5040_01.row.prog) (w := w) hf.set) hod hfr ?_
    intro h3 tk3 F3 N3
    clear F2 N2
    have hf1 : FreshSet { o with slots := (o.slots ++ Array.replicate (0 + 1 - o.slots.size) none).setIfInBounds 0 (some (.ref D)) } := ⟨hf.data⟩
    have O1 : OSet w { o with slots := (o.slots ++ Array.replicate (0 + 1 - o.slots.size) none).setIfInBounds 0 (some (.ref D)) } dx D [] := ⟨hcl, hod, by show (o.slots ++ Array.replicate (0 + 1 - o.slots.size) none).setIfInBounds 0 (some (.ref D)) = _; rw [hsl]; rfl, hf1.set⟩
    generalize ({ o with slots := (o.slots ++ Array.replicate (0 + 1 - o.slots.size) none).setIfInBounds 0 (some (.ref D)) } : Obj) = o1 at *
    k_steps
    rename Fr g L' _ _ => F4
    rename News g L' _ _ => N4
    refine init_call hh (KX.keeps F4.keep) (N4.get (a := a) (by k_mem)) O1.cls hf1 ⟨_, N4.get (by k_mem), rfl, _, rfl⟩ I2 (by unfold scanBound; omega) ?_
    intro h5 tk5 o5 k5 e5 hh5 S5
    obtain ⟨F5, N5⟩ := upd_kept F4 N4 (by k_updF) k5 e5
    clear F4 N4
    k_steps
    have N6 : News g L' h5 [(D, PySem.W.listOf vs.toArray n), (a, o5), (dx, dictObj)] := N5
    have O5 := O1.head hh5 S5
    have kD : s.heap.get? D = none := kept_none k1 n0
    refine h _ _ D (fun b ob hb' e => ?_) kD (.mk' (N6.get (by k_mem)) (N6.get (by k_mem)) (N6.get (by k_mem)) (O5.setTo hn fun k => by rw [mem_updL]; simp) I2 ba bd (stays_none Y.k kD))
    by_cases q : b = dx
    · subst q; rw [hdx] at e; cases e; exact N6.get (by k_mem)
    · exact F5.keep b ob (hg b ob e (by simpa using ⟨by simpa using hb', q⟩))
end Mine
end

section
open PySem PySem.W PyProof.Rows
theorem Mine.rs_IN2 {M : Model} {A : Around} {s : Shared} {v : Value} {Q : Bool → Shared → Prop} {E : Value → Shared → Prop} (h : wpAny M A (truthy v) Q E s) : wpAny M A (truthy v) Q E s := by
  first | (walk1; fail) | exact h
end

section
open PySem PySem.W PyProof.Rows PySem.Builtin.Frozenset PySem.Calls
set_option Elab.async false
set_option maxRecDepth 100000
set_option maxHeartbeats 4000000
namespace Mine

local macro_rules | `(tactic| k_inst) => `(tactic| (refine' OSet.inst ?O ?N ?h1 ?h2; (case N => k_asm); (case O => k_asm); (case h1 => k_mem); (case h2 => k_mem)))
local macro_rules | `(tactic| walk_at "compareOp NotIn int ref") => `(tactic| (k_here; k_dflt (refine' notin_N ?F ?X ?N ?m ?O ?b ?_; (case F => k_asm); (case X => k_asm); (case N => k_asm); (case O => k_asm); (case m => k_mem); (case b => (first | assumption | (unfold scanBound; omega))))))
local macro_rules | `(tactic| walk_at "compareOp In int ref") => `(tactic| (k_here; k_dflt (refine' in_N ?F ?X ?N ?m ?O ?b ?_; (case F => k_asm); (case X => k_asm); (case N => k_asm); (case O => k_asm); (case m => k_mem); (case b => (first | assumption | (unfold scanBound; omega))))))
local macro_rules | `(tactic| walk_at "getAttr ref") => `(tactic| (k_here; (with_reducible show wpAny _ _ (getAttr (Value.ref _) (Str.ofString "_list") _) _ _ _); k_dflt (refine' list_N ?F ?X ?N ?m ?O ?n ?_; (case F => k_asm); (case X => k_asm); (case N => k_asm); (case O => k_asm); (case m => k_mem); (case n => k_mem))))
local macro_rules | `(tactic| walk_at "call builtin:set.add") => `(tactic| (k_here; (with_reducible show wpAny _ _ (call (Value.builtin "set.add") [Value.ref _, Value.int _ _]) _ _ _); k_dflt (refine' add_N ?F ?X ?N ?U ?O ?b ?_; (case F => k_asm); (case X => k_asm); (case N => k_asm); (case O => k_asm); (case U => k_updF); (case b => (first | assumption | (unfold scanBound; omega)))); intro h' tk' o' F' N' O'; (try dsimp only at N')))
local macro_rules | `(tactic| walk_at "getMethod") => `(tactic| (k_here; (with_reducible show wpAny _ _ (getMethod (Value.type "set") _ _) _ _ _); (with_reducible refine' getMethod_setT ?F ?X ?e ?h ?_); k_dflt ((case F => k_asm); (case X => k_asm); (case e => first | with_reducible exact k_set_add | with_reducible exact k_set_remove | with_reducible exact k_set_update | with_reducible exact k_set_init | with_reducible exact k_set_inter | with_reducible exact k_set_diff | with_reducible exact k_set_interu | with_reducible exact k_set_diffu | with_reducible exact k_set_symu); (case h => rfl))))
local macro_rules | `(tactic| walk_at "call builtin:set.remove") => `(tactic| (k_here; (with_reducible show wpAny _ _ (call (Value.builtin "set.remove") [Value.ref _, Value.int _ _]) _ _ _); k_dflt (refine' remove_N ?F ?X ?N ?U ?O ?b ?k ?_; (case F => k_asm); (case X => k_asm); (case N => k_asm); (case O => k_asm); (case U => k_updF); (case b => (first | assumption | (unfold scanBound; omega))); (case k => assumption)); intro h' tk' o' F' N' O'; (try dsimp only at N')))
local macro_rules | `(tactic| walk_at "eval Call Attribute") => `(tactic| (k_here; k_dflt (refine methodCall_star (by rfl) (by rfl) ?_)))
local macro_rules | `(tactic| walk_at "getAttr") => `(tactic| (k_here; (with_reducible show wpAny _ _ (getAttr (Value.type "set") _ _) _ _ _); k_dflt (refine' getAttr_setT ?X ?e ?h ?_; (case X => k_in); (case e => first | with_reducible exact k_set_inter | with_reducible exact k_set_diff | with_reducible exact k_set_interu | with_reducible exact k_set_diffu); (case h => rfl))))
local macro_rules | `(tactic| walk_at "callWith") => `(tactic| (k_here; (with_reducible show wpAny _ _ (callWith _ (Value.builtin _) [] _ []) _ _ _); k_dflt (refine' callWith_starB ?b ?_ ?a ?c; (case a => rfl); (case c => rfl); (case b => exact fun _ => Looks.of_pure rfl))))

theorem Src.keeps {w : World} {h h' : Heap} {v : Value} {ys : List Int} {T : String} {Wm : List Addr} (S : Src w h v ys T Wm) (k : KeptBut [] h h') : Src w h' v ys T Wm where
  type := fun s k' => S.type s (k.comp k')
  iter := fun A s Q E hh k' hq => S.iter A s Q E hh (k.comp k') fun I fp n P St h2 W hP hn hst hfp hI k2 => hq I fp n P St h2 W hP hn hst (fun b hb => (hfp b hb).imp id fun ⟨o, e⟩ => ⟨o, k _ _ (by simp) e⟩) hI k2
  notDict := S.notDict
  notSet := S.notSet
  notFrozen := S.notFrozen
  old := fun b hb => let ⟨o, e⟩ := S.old b hb; ⟨o, k _ _ (by simp) e⟩

theorem init_uniq_ct {w : World} {s₀ : Shared} {mg mb : Str → Option Value} {hb : Heap} {A : Around} {s : Shared} {R : Result → Shared → Prop} {a dx v : Addr} {o : Obj} {ys : List Int} {T : String} (Wv : List (Addr × Obj)) (Y : Ct w s₀ mg mb hb A s 860) (ha : s.heap.get? a = some o) (hdx : s.heap.get? dx = some dictObj) (ba : hb.get? a = none) (bd : hb.get? dx = none) (hf : FreshSet o) (hcl : o.cls = .ref 232) (hod : o.dict = some dx) (hsl : o.slots = #[]) (hfr : o.isFreed = false)
    (h1 : IsI w s.heap (.ref v) "set" false) (h2 : IsI w s.heap (.ref v) "dict" false) (S : Src w s.heap (.ref v) ys T (Wv.map (·.1))) (HWv : ∀ p ∈ Wv, s.heap.get? p.1 = some p.2) (HFv : ∀ p ∈ Wv, hb.get? p.1 = none) (hne : ∀ p ∈ Wv, p.1 ≠ a ∧ p.1 ≠ dx) (hbd : ys.length < 100)
    (h : ∀ h' tk' D, KeptBut (a :: Wv.map (·.1)) s.heap h' → s.heap.get? D = none → OSAt w hb h' a dx D (updL [] ys) → R (.ok (.ret .none)) { s with heap := h', toks := tk' }) :
    codeAny (model PySem.Challenge.rw_ep5040_01.row.prog w) A (.call (.ref 44) ⟨[.ref a, .ref v], []⟩) R s := by
  have HW : ∀ p ∈ (a, o) :: (dx, dictObj) :: Wv, s.heap.get? p.1 = some p.2 := by
    intro p hp
    rcases List.mem_cons.mp hp with rfl | hp
    · exact ha
    · rcases List.mem_cons.mp hp with rfl | hp
      · exact hdx
      · exact HWv p hp
  have HF : ∀ p ∈ (a, o) :: (dx, dictObj) :: Wv, hb.get? p.1 = none := by
    intro p hp
    rcases List.mem_cons.mp hp with rfl | hp
    · exact ba
    · rcases List.mem_cons.mp hp with rfl | hp
      · exact bd
      · exact HFv p hp
  have hadx : @Ne Nat a dx := by
    rintro rfl
    rw [ha] at hdx; cases hdx
    exact absurd hcl (by intro e; cases e)
  have KX0 := Y.C.K
  revert KX0
  k_fill
  intro KX0
  refine enter (f := 44) (binds := [(Str.ofString "self", Value.ref a), (Str.ofString "d", Value.ref v)]) ((a, o) :: (dx, dictObj) :: Wv) Y.C Y.k HW HF (Nat.lt_trans Y.depth (by unfold recursionLimit; decide)) rfl (by k_is) (binds_K (KX0.keeps fun b o e => Y.k b o e) rfl (by k_is) rfl rfl rfl) (locs rfl) ?_
  intro g L' h₁ hg Cg hsz hL F N
  have KX := Cg.K
  have T := Cg.T
  have hh := Y.hand
  clear KX0
  have k1 : KeptBut [] s.heap h₁ := kept_all HW hg F (fun p hp => (N p hp).1)
  k_steps
  refine h1 _ _ _ _ k1 fun tk1 => ?_
  k_steps
  refine h2 _ _ _ _ k1 fun tk1 => ?_
  k_steps
  have hup : (updL [] ys).length ≤ ys.length := by have := updL_length (xs := []) (ys := ys); simpa using this
  refine wpAny_call (uniq_ct Wv (Y.at (A' := _) (d' := 900) k1 (by show A.depth + 1 + 860 ≤ A.depth + 900; omega) (by show A.units + 3 + 860 * 8 ≤ A.units + 900 * 8; omega) rfl) (S.keeps k1) (fun p hp => (N p (.tail _ (.tail _ hp))).1) HFv hbd fun h2 tk2 D n vs k2 n0 I2 hD => ?_)
  · have F2 := fr_kept F k2 (fun q => by
      obtain ⟨p, hp, e⟩ := List.mem_map.mp q
      exact (N p (.tail _ (.tail _ hp))).2.1 e) (fun b hb' => by
      obtain ⟨p, hp, rfl⟩ := List.mem_map.mp hb'
      exact (N p (.tail _ (.tail _ hp))).2.2)
    have nWa : a ∉ Wv.map (·.1) := fun q => by obtain ⟨p, hp, e⟩ := List.mem_map.mp q; exact (hne p hp).1 e
    have nWd : dx ∉ Wv.map (·.1) := fun q => by obtain ⟨p, hp, e⟩ := List.mem_map.mp q; exact (hne p hp).2 e
    have N2 : News g L' h2 ((D, PySem.W.listOf vs.toArray n) :: [(a, o), (dx, dictObj)]) := fun p hp => by
      rcases List.mem_cons.mp hp with rfl | hp
      · refine ⟨hD, ?_, ?_⟩
        · exact ne_none n0 (F.ns.choose_spec.choose_spec.choose_spec.1)
        · exact stays_none (g := h₁) (fun b ob e => F.keep b ob e) n0
      · rcases List.mem_cons.mp hp with rfl | hp
        · exact ⟨k2 _ _ nWa (N (a, o) (by simp)).1, (N (a, o) (by simp)).2⟩
        · rcases List.mem_cons.mp hp with rfl | hp
          · exact ⟨k2 _ _ nWd (N (dx, dictObj) (by simp)).1, (N (dx, dictObj) (by simp)).2⟩
          · simp at hp
    have nDa := ne_none n0 (N.get (a := a) (by k_mem))
    have nDd := ne_none n0 (N.get (a := dx) (by k_mem))
    clear F N
    k_steps
    refine slot_N F2 KX N2 (by k_updF) (by k_mem) hcl (SetO.notCls (prog := PySem.Challenge.rw_ep5040_01.row.prog) (w := w) hf.set) hod hfr ?_
    intro h3 tk3 F3 N3
    clear F2 N2
    have hf1 : FreshSet { o with slots := (o.slots ++ Array.replicate (0 + 1 - o.slots.size) none).setIfInBounds 0 (some (.ref D)) } := ⟨hf.data⟩
    have O1 : OSet w { o with slots := (o.slots ++ Array.replicate (0 + 1 - o.slots.size) none).setIfInBounds 0 (some (.ref D)) } dx D [] := ⟨hcl, hod, by show (o.slots ++ Array.replicate (0 + 1 - o.slots.size) none).setIfInBounds 0 (some (.ref D)) = _; rw [hsl]; rfl, hf1.set⟩
    generalize ({ o with slots := (o.slots ++ Array.replicate (0 + 1 - o.slots.size) none).setIfInBounds 0 (some (.ref D)) } : Obj) = o1 at *
    k_steps
    rename Fr g L' _ _ => F4
    rename News g L' _ _ => N4
    refine init_call hh (KX.keeps F4.keep) (N4.get (a := a) (by k_mem)) O1.cls hf1 ⟨_, N4.get (by k_mem), rfl, _, rfl⟩ I2 (by unfold scanBound; omega) ?_
    intro h5 tk5 o5 k5 e5 hh5 S5
    obtain ⟨F5, N5⟩ := upd_kept F4 N4 (by k_updF) k5 e5
    clear F4 N4
    k_steps
    have N6 : News g L' h5 [(D, PySem.W.listOf vs.toArray n), (a, o5), (dx, dictObj)] := N5
    have O5 := O1.head hh5 S5
    have kD : s.heap.get? D = none := kept_none k1 n0
    refine h _ _ D (fun b ob hb' e => ?_) kD (.mk' (N6.get (by k_mem)) (N6.get (by k_mem)) (N6.get (by k_mem)) (O5.setTo (updL_nodup (by simp)) fun k => by rw [mem_updL]; simp) I2 ba bd (stays_none Y.k kD))
    by_cases q : b = dx
    · subst q; rw [hdx] at e; cases e; exact N6.get (by k_mem)
    · refine F5.keep b ob (hg b ob e ?_)
      simp only [List.map_cons, List.mem_cons, not_or] at hb' ⊢
      exact ⟨hb'.1, q, hb'.2⟩
end Mine
end

section
open PySem PySem.W PyProof.Rows PySem.Builtin.Frozenset PySem.Calls
set_option Elab.async false
set_option maxRecDepth 100000
set_option maxHeartbeats 4000000
namespace Mine

theorem IsI.keeps {w : World} {h h' : Heap} {v : Value} {T : String} {b : Bool} (x : IsI w h v T b) (k : KeptBut [] h h') : IsI w h' v T b := fun A s Q E k' q => x A s Q E (k.comp k') q
theorem ListOfV.keeps {w : World} {s₀ : Shared} {mg mb : Str → Option Value} {hb : Heap} {h h' : Heap} {v : Value} {ys : List Int} (x : ListOfV w s₀ mg mb hb h v ys) (k : KeptBut [] h h') : ListOfV w s₀ mg mb hb h' v ys := fun A s Q E Y k' q => x A s Q E Y (k.comp k') q

theorem none_push {h : Heap} {o1 o2 : Obj} {D : Addr} (e : ((h.push o1).push o2).get? D = none) : h.get? D = none := by
  cases q : h.get? D with
  | none => rfl
  | some ob => rw [Heap.get?_push_of_some _ (Heap.get?_push_of_some _ q)] at e; cases e

theorem tc_weight (v : Value) : (Code.builtin "type.__call__" ⟨[.ref 232, v], []⟩).weight ≤ 1 := by
  have : (Code.builtin "type.__call__" ⟨[.ref 232, v], []⟩).weight = 1 := by first | rfl | kernel_rfl
  omega
theorem tc_units (v : Value) : (Code.builtin "type.__call__" ⟨[.ref 232, v], []⟩).cUnits ≤ 3 := by
  have : (Code.builtin "type.__call__" ⟨[.ref 232, v], []⟩).cUnits = 1 := by first | rfl | kernel_rfl
  omega

theorem new_list_ct {w : World} {s₀ : Shared} {mg mb : Str → Option Value} {hb : Heap} {A : Around} {s : Shared} {R : Result → Shared → Prop} {v : Addr} {ys : List Int} {b1 b2 : Bool} (Y : Ct w s₀ mg mb hb A s 840)
    (h1 : IsI w s.heap (.ref v) "set" b1) (h2 : b1 = false → IsI w s.heap (.ref v) "dict" b2) (hor : (b1 || b2) = true) (hl : ListOfV w s₀ mg mb hb s.heap (.ref v) ys) (hn : ys.Nodup) (hbd : ys.length < 100)
    (h : ∀ h' tk' a dx D, KeptBut [] s.heap h' → s.heap.get? a = none → s.heap.get? dx = none → s.heap.get? D = none → OSAt w hb h' a dx D ys → R (.ok (.ret (.ref a))) { s with heap := h', toks := tk' }) :
    codeAny (model PySem.Challenge.rw_ep5040_01.row.prog w) A (.call (.ref 232) ⟨[.ref v], []⟩) R s := by
  have X : (hd.heap_39 w.params).In s.heap := Y.C.K.keeps Y.k
  refine make_S X fun o hf hcl hod hsl hfr => ?_
  have e1 : ((s.heap.push dictObj).push o).get? (s.heap.objs.size + 1) = some o := by
    have := Heap.get?_push_size (s.heap.push dictObj) hfr
    rwa [Heap.size_push] at this
  have e2 : ((s.heap.push dictObj).push o).get? s.heap.objs.size = some dictObj := Heap.get?_push_of_some _ (Heap.get?_push_size _ rfl)
  have k1 : KeptBut [] s.heap ((s.heap.push dictObj).push o) := fun b ob hb' e => Heap.get?_push_of_some _ (Heap.get?_push_of_some _ e)
  have n1 : s.heap.get? (s.heap.objs.size + 1) = none := fresh_ge (Nat.le_succ _)
  have n2 : s.heap.get? s.heap.objs.size = none := fresh_at _
  refine init_list_ct (Y.at (s' := { s with heap := (s.heap.push dictObj).push o }) (d' := 860) k1 ?_ ?_ rfl) e1 e2 (stays_none Y.k n1) (stays_none Y.k n2) hf hcl hod hsl hfr (h1.keeps k1) (fun e => (h2 e).keeps k1) hor (hl.keeps k1) hn hbd fun h' tk' D k hD O => ?_
  · have := tc_weight (.ref v)
    show A.depth + (Code.weight _) + 840 ≤ A.depth + 860
    omega
  · have := tc_units (.ref v)
    show A.units + (Code.cUnits _) + 840 * 8 ≤ A.units + 860 * 8
    omega
  · refine ⟨rfl, ?_⟩
    exact h _ _ _ _ D (fun b ob hb' e => k b ob (by simp; rintro rfl; rw [n1] at e; cases e) (k1 b ob (by simp) e)) n1 n2 (none_push hD) O
end Mine
end

section
open PySem PySem.W PyProof.Rows PySem.Builtin.Frozenset PySem.Calls
set_option Elab.async false
set_option maxRecDepth 100000
set_option maxHeartbeats 4000000
namespace Mine

theorem new_uniq_ct {w : World} {s₀ : Shared} {mg mb : Str → Option Value} {hb : Heap} {A : Around} {s : Shared} {R : Result → Shared → Prop} {v : Addr} {ys : List Int} {T : String} (Wv : List (Addr × Obj)) (Y : Ct w s₀ mg mb hb A s 840)
    (h1 : IsI w s.heap (.ref v) "set" false) (h2 : IsI w s.heap (.ref v) "dict" false) (S : Src w s.heap (.ref v) ys T (Wv.map (·.1))) (HWv : ∀ p ∈ Wv, s.heap.get? p.1 = some p.2) (HFv : ∀ p ∈ Wv, hb.get? p.1 = none) (hbd : ys.length < 100)
    (h : ∀ h' tk' a dx D, KeptBut (Wv.map (·.1)) s.heap h' → s.heap.get? a = none → s.heap.get? dx = none → s.heap.get? D = none → OSAt w hb h' a dx D (updL [] ys) → R (.ok (.ret (.ref a))) { s with heap := h', toks := tk' }) :
    codeAny (model PySem.Challenge.rw_ep5040_01.row.prog w) A (.call (.ref 232) ⟨[.ref v], []⟩) R s := by
  have X : (hd.heap_39 w.params).In s.heap := Y.C.K.keeps Y.k
  refine make_S X fun o hf hcl hod hsl hfr => ?_
  have e1 : ((s.heap.push dictObj).push o).get? (s.heap.objs.size + 1) = some o := by
    have := Heap.get?_push_size (s.heap.push dictObj) hfr
    rwa [Heap.size_push] at this
  have e2 : ((s.heap.push dictObj).push o).get? s.heap.objs.size = some dictObj := Heap.get?_push_of_some _ (Heap.get?_push_size _ rfl)
  have k1 : KeptBut [] s.heap ((s.heap.push dictObj).push o) := fun b ob hb' e => Heap.get?_push_of_some _ (Heap.get?_push_of_some _ e)
  have n1 : s.heap.get? (s.heap.objs.size + 1) = none := fresh_ge (Nat.le_succ _)
  have n2 : s.heap.get? s.heap.objs.size = none := fresh_at _
  refine init_uniq_ct Wv (Y.at (s' := { s with heap := (s.heap.push dictObj).push o }) (d' := 860) k1 ?_ ?_ rfl) e1 e2 (stays_none Y.k n1) (stays_none Y.k n2) hf hcl hod hsl hfr (h1.keeps k1) (h2.keeps k1) (S.keeps k1) (fun p hp => k1 _ _ (by simp) (HWv p hp)) HFv (fun p hp => ⟨?_, ?_⟩) hbd fun h' tk' D k hD O => ?_
  · have := tc_weight (.ref v)
    show A.depth + (Code.weight _) + 840 ≤ A.depth + 860
    omega
  · have := tc_units (.ref v)
    show A.units + (Code.cUnits _) + 840 * 8 ≤ A.units + 860 * 8
    omega
  · intro e; have := HWv p hp; rw [e, n1] at this; cases this
  · intro e; have := HWv p hp; rw [e, n2] at this; cases this
  · refine ⟨rfl, ?_⟩
    refine h _ _ _ _ D (fun b ob hb' e => k b ob ?_ (k1 b ob (by simp) e)) n1 n2 (none_push hD) O
    intro q
    rcases List.mem_cons.mp q with rfl | q
    · rw [n1] at e; cases e
    · exact hb' q

def Born (w : World) (hb : Heap) (W : List Addr) (s : Shared) (R : Result → Shared → Prop) (ys : List Int) : Prop :=
  ∀ h' tk' a dx D, KeptBut W s.heap h' → s.heap.get? a = none → s.heap.get? dx = none → s.heap.get? D = none → OSAt w hb h' a dx D ys → R (.ok (.ret (.ref a))) { s with heap := h', toks := tk' }

theorem dedup_id : ∀ {ys xs : List Int}, (xs ++ ys).Nodup → updL xs ys = xs ++ ys
  | [], xs, _ => by simp [updL]
  | y :: ys, xs, h => by
    have h1 : y ∉ xs := fun q => by
      have := (List.nodup_append.mp h).2.2 y q y (by simp)
      exact this rfl
    have h2 : updL xs (y :: ys) = updL (addL xs y) ys := rfl
    rw [h2, addL_of_not h1, dedup_id (by simpa using h)]
    simp

theorem os_of_list {w : World} {s₀ : Shared} {mg mb : Str → Option Value} {hb : Heap} {A : Around} {s : Shared} {R : Result → Shared → Prop} {v : Addr} {n : Nat} {vs : List Value} {ys : List Int} (Y : Ct w s₀ mg mb hb A s 840) (hv : s.heap.get? v = some (PySem.W.listOf vs.toArray n)) (I : IntsAre vs ys) (hbd : ys.length < 100) (hn : ys.Nodup) (h : Born w hb [] s R ys) :
    codeAny (model PySem.Challenge.rw_ep5040_01.row.prog w) A (.call (.ref 232) ⟨[.ref v], []⟩) R s := by
  have e : updL [] ys = ys := by simpa using dedup_id (xs := []) (ys := ys) (by simpa using hn)
  exact new_uniq_ct [] Y (isi_list_set hv rfl) (isi_list_dict hv rfl) (src_list ⟨_, hv, rfl, n, rfl⟩ I) (by simp) (by simp) hbd (by rw [e]; exact h)

theorem os_of_tup {w : World} {s₀ : Shared} {mg mb : Str → Option Value} {hb : Heap} {A : Around} {s : Shared} {R : Result → Shared → Prop} {v : Addr} {n : Nat} {vs : List Value} {ys : List Int} (Y : Ct w s₀ mg mb hb A s 840) (hv : s.heap.get? v = some ⟨.type "tuple", none, .seq vs.toArray n, #[]⟩) (I : IntsAre vs ys) (hbd : ys.length < 100) (h : Born w hb [] s R (updL [] ys)) :
    codeAny (model PySem.Challenge.rw_ep5040_01.row.prog w) A (.call (.ref 232) ⟨[.ref v], []⟩) R s :=
  new_uniq_ct [] Y (isi_tup_set hv rfl) (isi_tup_dict hv rfl) (src_tup ⟨_, hv, rfl, n, rfl⟩ I) (by simp) (by simp) hbd h

theorem os_of_iter {w : World} {s₀ : Shared} {mg mb : Str → Option Value} {hb : Heap} {A : Around} {s : Shared} {R : Result → Shared → Prop} {v l : Addr} {vs : List Value} {ys : List Int} {oi : Obj} (Y : Ct w s₀ mg mb hb A s 840) (hv : s.heap.get? v = some oi) (hc : oi.cls = .type "list_iterator") (hd : oi.data = .fields #[.ref l, .int 0 0]) (hl : s.heap.IsList l vs.toArray) (hbv : hb.get? v = none) (I : IntsAre vs ys) (hbd : ys.length < 100) (hn : ys.Nodup) (h : Born w hb [v] s R ys) :
    codeAny (model PySem.Challenge.rw_ep5040_01.row.prog w) A (.call (.ref 232) ⟨[.ref v], []⟩) R s := by
  have e : updL [] ys = ys := by simpa using dedup_id (xs := []) (ys := ys) (by simpa using hn)
  have hne : l ≠ v := by
    rintro rfl
    obtain ⟨ol, h1, h2, _⟩ := hl
    rw [hv] at h1; cases h1
    rw [hc] at h2
    exact absurd (Value.type.inj h2) (by decide)
  exact new_uniq_ct [(v, oi)] Y (isi_it_set hv hc) (isi_it_dict hv hc) (src_iter ⟨oi, hv, hc, hd⟩ hl hne I) (by simpa using hv) (by simpa using hbv) hbd (by rw [e]; exact h)

theorem os_of_os {w : World} {s₀ : Shared} {mg mb : Str → Option Value} {hb : Heap} {A : Around} {s : Shared} {R : Result → Shared → Prop} {v dx l : Addr} {ys : List Int} (Y : Ct w s₀ mg mb hb A s 840) (O : OSAt w hb s.heap v dx l ys) (hbd : ys.length < 100) (h : Born w hb [] s R ys) :
    codeAny (model PySem.Challenge.rw_ep5040_01.row.prog w) A (.call (.ref 232) ⟨[.ref v], []⟩) R s := by
  obtain ⟨o, vs, n, ha, hl, O', I⟩ := O.at_
  have X : (hd.heap_39 w.params).In s.heap := Y.C.K.keeps Y.k
  refine new_list_ct (b1 := true) (b2 := false) Y (isi_os_set X ha O'.cls) (fun e => by cases e) rfl (fun A' s' Q E Y' k hq => list_S Y' (O.keeps k (by simp) (by simp) (by simp)) hbd hq) O'.set.nd hbd h

theorem os_of_dict {w : World} {s₀ : Shared} {mg mb : Str → Option Value} {hb : Heap} {A : Around} {s : Shared} {R : Result → Shared → Prop} {v : Addr} {kvs : List (Int × Value)} {ys : List Int} (Y : Ct w s₀ mg mb hb A s 840) (hd : s.heap.DictOf (intKind PySem.Challenge.rw_ep5040_01.row.prog w) v kvs) (lo : (v == sysModules) = false) (e : kvs.map (·.1) = ys) (hbd : ys.length < 100) (h : Born w hb [] s R ys) :
    codeAny (model PySem.Challenge.rw_ep5040_01.row.prog w) A (.call (.ref 232) ⟨[.ref v], []⟩) R s := by
  obtain ⟨o, es, ep, ho, hex, hdd, hk, hp, hn⟩ := hd
  have hc : o.cls = .type "dict" := by
    obtain ⟨o', h1, h2⟩ := (show s.heap.DictOf (intKind PySem.Challenge.rw_ep5040_01.row.prog w) v kvs from ⟨o, es, ep, ho, hex, hdd, hk, hp, hn⟩).typeIs
    rw [ho] at h1; cases h1; exact h2
  have hlen : kvs.length = ys.length := by rw [← e]; simp
  refine new_list_ct (b1 := false) (b2 := true) Y (isi_dict_set ho hc) (fun _ => isi_dict_dict ho hc) rfl (fun A' s' Q E Y' k hq => ?_) (by rw [← e]; exact hn) hbd h
  refine kdl_call (kdl_dict lo) Y'.hand ⟨o, es, k _ _ (by simp) ho, hex, hdd, hk, hp, hn⟩ (by rw [sizeLine_eq]; omega) fun h4 tk4 acc c4 k4 e4 hacc => ?_
  refine hq h4 tk4 s'.heap.objs.size c4 acc.toList (fun b o' _ q => k4 b o' q) (fresh_at _) (ints_of (by rw [← hlen]; simpa using hacc.1) fun j v' hv => ?_) (by simpa using e4)
  obtain ⟨k', x', e1, e2⟩ := hacc.2 j v' (by simpa using hv)
  obtain ⟨t, rfl⟩ := intKind_val e2
  exact ⟨k', t, by rw [← e, List.getElem?_map, e1]; rfl, rfl⟩
end Mine
end

section
open PySem PySem.W PyProof.Rows
theorem Mine.rs_FL1 {M : Model} {A : Around} {s : Shared} {v : Value} {Q : Bool → Shared → Prop} {E : Value → Shared → Prop} (h : wpAny M A (truthy v) Q E s) : wpAny M A (truthy v) Q E s := by
  first | (walk1; fail) | exact h
end

section
open PySem PySem.W PyProof.Rows PySem.Builtin.Frozenset PySem.Calls
set_option Elab.async false
set_option maxRecDepth 100000
set_option maxHeartbeats 4000000
namespace Mine

local macro_rules | `(tactic| k_inst) => `(tactic| (refine' OSet.inst ?O ?N ?h1 ?h2; (case N => k_asm); (case O => k_asm); (case h1 => k_mem); (case h2 => k_mem)))
local macro_rules | `(tactic| walk_at "compareOp NotIn int ref") => `(tactic| (k_here; k_dflt (refine' notin_N ?F ?X ?N ?m ?O ?b ?_; (case F => k_asm); (case X => k_asm); (case N => k_asm); (case O => k_asm); (case m => k_mem); (case b => (first | assumption | (unfold scanBound; omega))))))
local macro_rules | `(tactic| walk_at "compareOp In int ref") => `(tactic| (k_here; k_dflt (refine' in_N ?F ?X ?N ?m ?O ?b ?_; (case F => k_asm); (case X => k_asm); (case N => k_asm); (case O => k_asm); (case m => k_mem); (case b => (first | assumption | (unfold scanBound; omega))))))
local macro_rules | `(tactic| walk_at "getAttr ref") => `(tactic| (k_here; (with_reducible show wpAny _ _ (getAttr (Value.ref _) (Str.ofString "_list") _) _ _ _); k_dflt (refine' list_N ?F ?X ?N ?m ?O ?n ?_; (case F => k_asm); (case X => k_asm); (case N => k_asm); (case O => k_asm); (case m => k_mem); (case n => k_mem))))
local macro_rules | `(tactic| walk_at "call builtin:set.add") => `(tactic| (k_here; (with_reducible show wpAny _ _ (call (Value.builtin "set.add") [Value.ref _, Value.int _ _]) _ _ _); k_dflt (refine' add_N ?F ?X ?N ?U ?O ?b ?_; (case F => k_asm); (case X => k_asm); (case N => k_asm); (case O => k_asm); (case U => k_updF); (case b => (first | assumption | (unfold scanBound; omega)))); intro h' tk' o' F' N' O'; (try dsimp only at N')))
local macro_rules | `(tactic| walk_at "getMethod") => `(tactic| (k_here; (with_reducible show wpAny _ _ (getMethod (Value.type "set") _ _) _ _ _); (with_reducible refine' getMethod_setT ?F ?X ?e ?h ?_); k_dflt ((case F => k_asm); (case X => k_asm); (case e => first | with_reducible exact k_set_add | with_reducible exact k_set_remove | with_reducible exact k_set_update | with_reducible exact k_set_init | with_reducible exact k_set_inter | with_reducible exact k_set_diff | with_reducible exact k_set_interu | with_reducible exact k_set_diffu | with_reducible exact k_set_symu); (case h => rfl))))
local macro_rules | `(tactic| walk_at "call builtin:set.remove") => `(tactic| (k_here; (with_reducible show wpAny _ _ (call (Value.builtin "set.remove") [Value.ref _, Value.int _ _]) _ _ _); k_dflt (refine' remove_N ?F ?X ?N ?U ?O ?b ?k ?_; (case F => k_asm); (case X => k_asm); (case N => k_asm); (case O => k_asm); (case U => k_updF); (case b => (first | assumption | (unfold scanBound; omega))); (case k => assumption)); intro h' tk' o' F' N' O'; (try dsimp only at N')))
local macro_rules | `(tactic| walk_at "eval Call Attribute") => `(tactic| (k_here; k_dflt (refine methodCall_star (by rfl) (by rfl) ?_)))
local macro_rules | `(tactic| walk_at "getAttr") => `(tactic| (k_here; (with_reducible show wpAny _ _ (getAttr (Value.type "set") _ _) _ _ _); k_dflt (refine' getAttr_setT ?X ?e ?h ?_; (case X => k_in); (case e => first | with_reducible exact k_set_inter | with_reducible exact k_set_diff | with_reducible exact k_set_interu | with_reducible exact k_set_diffu); (case h => rfl))))
local macro_rules | `(tactic| walk_at "callWith") => `(tactic| (k_here; (with_reducible show wpAny _ _ (callWith _ (Value.builtin _) [] _ []) _ _ _); k_dflt (refine' callWith_starB ?b ?_ ?a ?c; (case a => rfl); (case c => rfl); (case b => exact fun _ => Looks.of_pure rfl))))

section
variable {w : World} {A : Around} {E : Value → Shared → Prop} {s : Shared} {h₀ : Heap} {L a dx l y : Addr} {m : Str → Option Value} {news : List (Addr × Obj)} {gg : Obj → List (Addr × Obj)} {o : Obj} {xs ys : List Int} {vs : List Value}
theorem new_N {Q : Value → Shared → Prop} (F : Fr h₀ L s.heap m) (X₀ : (hd.heap_39 w.params).In h₀) (N : News h₀ L s.heap news)
    (h : ∀ o h' a dx, FreshSet o → o.cls = .ref 232 → o.dict = some dx → o.slots = #[] → o.isFreed = false → Fr h₀ L h' m → News h₀ L h' ((a, o) :: (dx, dictObj) :: news) → (∀ p ∈ news, p.1 < dx) → @LT.lt Nat _ dx a → s.heap.get? a = none → s.heap.get? dx = none → KeptBut [] s.heap h' → Q (.ref a) { s with heap := h' }) :
    wpAny (model PySem.Challenge.rw_ep5040_01.row.prog w) A (call (.builtin "set.__new__") [.ref 232]) Q E s := by
  have X := X₀.keeps F.keep
  refine wpAny_call (new_S (makesS_of X) (SN.args1 _) fun o hf hcl hod hsl hfr => ?_)
  have hL : @LT.lt Nat _ L s.heap.objs.size := F.ns.lt
  have n1 : s.heap.get? (s.heap.objs.size + 1) = none := fresh_ge (Nat.le_succ _)
  have n2 : s.heap.get? s.heap.objs.size = none := fresh_at _
  have k1 : KeptBut [] s.heap ((s.heap.push dictObj).push o) := fun b ob hb' e => Heap.get?_push_of_some _ (Heap.get?_push_of_some _ e)
  have e1 : ((s.heap.push dictObj).push o).get? (s.heap.objs.size + 1) = some o := by
    have := Heap.get?_push_size (s.heap.push dictObj) hfr
    rwa [Heap.size_push] at this
  refine h o _ _ _ hf hcl hod hsl hfr (fr_kept0 F k1) (fun p hp => ?_) (fun p hp => Heap.lt_size (N p hp).1) (Nat.lt_succ_self _) n1 n2 k1
  rcases List.mem_cons.mp hp with rfl | hp
  · refine ⟨e1, ?_, stays_none F.keep n1⟩
    have : @Ne Nat (s.heap.objs.size + 1) L := by omega
    exact this
  · rcases List.mem_cons.mp hp with rfl | hp
    · refine ⟨Heap.get?_push_of_some _ (Heap.get?_push_size _ rfl), ?_, stays_none F.keep n2⟩
      have : @Ne Nat s.heap.objs.size L := by omega
      exact this
    · exact ⟨k1 _ _ (by simp) (N p hp).1, (N p hp).2⟩

theorem update_N {Q : Value → Shared → Prop} (hh : A.handled = none) (F : Fr h₀ L s.heap m) (X₀ : (hd.heap_39 w.params).In h₀) (N : News h₀ L s.heap news) (U : UpdF a o news gg) (O : OSet w o dx l xs) (hl : s.heap.IsList y vs.toArray) (hI : IntsAre vs ys) (hb : xs.length + ys.length < scanBound)
    (h : ∀ h' tk' o', Fr h₀ L h' m → News h₀ L h' (gg o') → OSet w o' dx l (updL xs ys) → Q .none { s with heap := h', toks := tk' }) : wpAny (model PySem.Challenge.rw_ep5040_01.row.prog w) A (call (.builtin "set.update") [.ref a, .ref y]) Q E s :=
  call_update hh (N _ (updF_mem U)).1 (O.setCls (X₀.keeps F.keep)) O.set hl hI hb fun h' tk' o' hk hg hh hS => let ⟨F', N'⟩ := upd_kept F N U hk hg; h h' tk' o' F' N' (O.head hh hS)
end

theorem from_list_ct {w : World} {s₀ : Shared} {mg mb : Str → Option Value} {hb : Heap} {A : Around} {s : Shared} {R : Result → Shared → Prop} {v0 : Value} {y ny : Addr} {ws : List Value} {ys : List Int} (Y : Ct w s₀ mg mb hb A s 880) (hy : s.heap.get? y = some (PySem.W.listOf ws.toArray ny)) (I : IntsAre ws ys) (hn : ys.Nodup) (hby : hb.get? y = none) (hbd : ys.length < 100)
    (h : ∀ h' tk' a dx, KeptBut [] s.heap h' → s.heap.get? a = none → s.heap.get? dx = none → OSAt w hb h' a dx y ys → R (.ok (.ret (.ref a))) { s with heap := h', toks := tk' }) :
    codeAny (model PySem.Challenge.rw_ep5040_01.row.prog w) A (.call (.ref 58) ⟨[v0, .ref y], []⟩) R s := by
  have HW : ∀ p ∈ ([] : List (Addr × Obj)), s.heap.get? p.1 = some p.2 := by simp
  have HF : ∀ p ∈ ([] : List (Addr × Obj)), hb.get? p.1 = none := by simp
  have KX0 := Y.C.K
  revert KX0
  k_fill
  intro KX0
  refine enter (f := 58) (binds := [(Str.ofString "self", v0), (Str.ofString "new_list", Value.ref y)]) [] Y.C Y.k HW HF (Nat.lt_trans Y.depth (by unfold recursionLimit; decide)) rfl (by k_is) (BindsTo.of_eq rfl) (locs rfl) ?_
  intro g L' h₁ hg Cg hsz hL F N
  have KX := Cg.K
  have T := Cg.T
  have hh := Y.hand
  clear KX0
  have k1 : KeptBut [] s.heap h₁ := kept_all HW hg F (fun p hp => by simp at hp)
  have hyg : g.get? y = some (PySem.W.listOf ws.toArray ny) := hg y _ hy (by simp)
  k_steps
  refine new_N F KX N ?_
  intro o h2 a dx hf hcl hod hsl hfr F2 N2 _ hlt2 n1 n2 k2
  clear F N
  k_steps
  rename Fr g L' _ _ => F3
  rename News g L' _ _ => N3
  refine slot_N F3 KX N3 (by k_updF) (by k_mem) hcl (SetO.notCls (prog := PySem.Challenge.rw_ep5040_01.row.prog) (w := w) hf.set) hod hfr ?_
  intro h3 tk3 F3' N3'
  clear F3 N3
  have O1 : OSet w { o with slots := (o.slots ++ Array.replicate (0 + 1 - o.slots.size) none).setIfInBounds 0 (some (.ref y)) } dx y [] := ⟨hcl, hod, by show (o.slots ++ Array.replicate (0 + 1 - o.slots.size) none).setIfInBounds 0 (some (.ref y)) = _; rw [hsl]; rfl, FreshSet.set (o := { o with slots := (o.slots ++ Array.replicate (0 + 1 - o.slots.size) none).setIfInBounds 0 (some (.ref y)) }) ⟨hf.data⟩⟩
  generalize ({ o with slots := (o.slots ++ Array.replicate (0 + 1 - o.slots.size) none).setIfInBounds 0 (some (.ref y)) } : Obj) = o1 at *
  k_steps
  rename Fr g L' _ _ => F4
  rename News g L' _ _ => N4
  refine update_N hh F4 KX N4 (by k_updF) O1 ⟨_, F4.keep _ _ hyg, rfl, _, rfl⟩ I (by unfold scanBound; simp; omega) ?_
  intro h5 tk5 o5 F5 N5 O5
  clear F4 N4
  k_steps
  dsimp only
  have kH : KeptBut [] s.heap h5 := fun b ob hb' e => F5.keep b ob (hg b ob e (by simp))
  refine h _ _ a dx kH (kept_none k1 n1) (kept_none k1 n2) (.mk' (N5.get (by k_mem)) (N5.get (by k_mem)) (F5.keep _ _ hyg) (O5.setTo hn fun k => by rw [mem_updL]; simp) I (stays_none Y.k (kept_none k1 n1)) (stays_none Y.k (kept_none k1 n2)) hby)
end Mine
end

section
open PySem PySem.W PyProof.Rows
theorem Mine.rs_CP1 {M : Model} {A : Around} {s : Shared} {v : Value} {Q : Bool → Shared → Prop} {E : Value → Shared → Prop} (h : wpAny M A (truthy v) Q E s) : wpAny M A (truthy v) Q E s := by
  first | (walk1; fail) | exact h
end

section
open PySem PySem.W PyProof.Rows PySem.Builtin.Frozenset PySem.Calls
set_option Elab.async false
set_option maxRecDepth 100000
set_option maxHeartbeats 4000000
namespace Mine

local macro_rules | `(tactic| k_inst) => `(tactic| (refine' OSet.inst ?O ?N ?h1 ?h2; (case N => k_asm); (case O => k_asm); (case h1 => k_mem); (case h2 => k_mem)))
local macro_rules | `(tactic| walk_at "compareOp NotIn int ref") => `(tactic| (k_here; k_dflt (refine' notin_N ?F ?X ?N ?m ?O ?b ?_; (case F => k_asm); (case X => k_asm); (case N => k_asm); (case O => k_asm); (case m => k_mem); (case b => (first | assumption | (unfold scanBound; omega))))))
local macro_rules | `(tactic| walk_at "compareOp In int ref") => `(tactic| (k_here; k_dflt (refine' in_N ?F ?X ?N ?m ?O ?b ?_; (case F => k_asm); (case X => k_asm); (case N => k_asm); (case O => k_asm); (case m => k_mem); (case b => (first | assumption | (unfold scanBound; omega))))))
local macro_rules | `(tactic| walk_at "getAttr ref") => `(tactic| (k_here; (with_reducible show wpAny _ _ (getAttr (Value.ref _) (Str.ofString "_list") _) _ _ _); k_dflt (refine' list_N ?F ?X ?N ?m ?O ?n ?_; (case F => k_asm); (case X => k_asm); (case N => k_asm); (case O => k_asm); (case m => k_mem); (case n => k_mem))))
local macro_rules | `(tactic| walk_at "call builtin:set.add") => `(tactic| (k_here; (with_reducible show wpAny _ _ (call (Value.builtin "set.add") [Value.ref _, Value.int _ _]) _ _ _); k_dflt (refine' add_N ?F ?X ?N ?U ?O ?b ?_; (case F => k_asm); (case X => k_asm); (case N => k_asm); (case O => k_asm); (case U => k_updF); (case b => (first | assumption | (unfold scanBound; omega)))); intro h' tk' o' F' N' O'; (try dsimp only at N')))
local macro_rules | `(tactic| walk_at "getMethod") => `(tactic| (k_here; (with_reducible show wpAny _ _ (getMethod (Value.type "set") _ _) _ _ _); (with_reducible refine' getMethod_setT ?F ?X ?e ?h ?_); k_dflt ((case F => k_asm); (case X => k_asm); (case e => first | with_reducible exact k_set_add | with_reducible exact k_set_remove | with_reducible exact k_set_update | with_reducible exact k_set_init | with_reducible exact k_set_inter | with_reducible exact k_set_diff | with_reducible exact k_set_interu | with_reducible exact k_set_diffu | with_reducible exact k_set_symu); (case h => rfl))))
local macro_rules | `(tactic| walk_at "call builtin:set.remove") => `(tactic| (k_here; (with_reducible show wpAny _ _ (call (Value.builtin "set.remove") [Value.ref _, Value.int _ _]) _ _ _); k_dflt (refine' remove_N ?F ?X ?N ?U ?O ?b ?k ?_; (case F => k_asm); (case X => k_asm); (case N => k_asm); (case O => k_asm); (case U => k_updF); (case b => (first | assumption | (unfold scanBound; omega))); (case k => assumption)); intro h' tk' o' F' N' O'; (try dsimp only at N')))
local macro_rules | `(tactic| walk_at "eval Call Attribute") => `(tactic| (k_here; k_dflt (refine methodCall_star (by rfl) (by rfl) ?_)))
local macro_rules | `(tactic| walk_at "getAttr") => `(tactic| (k_here; (with_reducible show wpAny _ _ (getAttr (Value.type "set") _ _) _ _ _); k_dflt (refine' getAttr_setT ?X ?e ?h ?_; (case X => k_in); (case e => first | with_reducible exact k_set_inter | with_reducible exact k_set_diff | with_reducible exact k_set_interu | with_reducible exact k_set_diffu); (case h => rfl))))
local macro_rules | `(tactic| walk_at "callWith") => `(tactic| (k_here; (with_reducible show wpAny _ _ (callWith _ (Value.builtin _) [] _ []) _ _ _); k_dflt (refine' callWith_starB ?b ?_ ?a ?c; (case a => rfl); (case c => rfl); (case b => exact fun _ => Looks.of_pure rfl))))

local macro_rules | `(tactic| walk_at "getMethod ref") => `(tactic| (k_here; (with_reducible show wpAny _ _ (getMethod (Value.ref _) _ _) _ _ _); k_dflt (refine' meth_N ?F ?X ?N ?m ?O ?n ?f ?t ?_; (case F => k_asm); (case X => k_asm); (case N => k_asm); (case O => k_asm); (case m => k_mem); (case n => k_mem); (case f => rfl); (case t => rfl))))
theorem copy_ct {w : World} {s₀ : Shared} {mg mb : Str → Option Value} {hb : Heap} {A : Around} {s : Shared} {R : Result → Shared → Prop} {a dx l : Addr} {xs : List Int} (Y : Ct w s₀ mg mb hb A s 860) (O : OSAt w hb s.heap a dx l xs) (hbd : xs.length < 100)
    (h : Born w hb [] s R xs) :
    codeAny (model PySem.Challenge.rw_ep5040_01.row.prog w) A (.call (.ref 51) ⟨[.ref a], []⟩) R s := by
  obtain ⟨hadx, hal, hdl⟩ := O.ne
  obtain ⟨⟨o, vs, n, ha, hl, O, I⟩, hdx, ba, bd, bl⟩ := O
  have HW : ∀ p ∈ [(a, o), (dx, dictObj), (l, PySem.W.listOf vs.toArray n)], s.heap.get? p.1 = some p.2 := by simp [ha, hdx, hl]
  have HF : ∀ p ∈ [(a, o), (dx, dictObj), (l, PySem.W.listOf vs.toArray n)], hb.get? p.1 = none := by simp [ba, bd, bl]
  have KX0 := Y.C.K
  revert KX0
  k_fill
  intro KX0
  refine enter (f := 51) (binds := [(Str.ofString "self", Value.ref a)]) [(a, o), (dx, dictObj), (l, PySem.W.listOf vs.toArray n)] Y.C Y.k HW HF (Nat.lt_trans Y.depth (by unfold recursionLimit; decide)) rfl (by k_is) (BindsTo.of_eq rfl) (locs rfl) ?_
  intro g L' h₁ hg Cg hsz hL F N
  have KX := Cg.K
  have T := Cg.T
  have hh := Y.hand
  clear KX0
  have k1 : KeptBut [] s.heap h₁ := kept_all HW hg F (fun p hp => (N p hp).1)
  k_steps
  rename Fr g L' _ _ => F2
  rename News g L' _ _ => N2
  rename_i D2 c2 h2 l1
  have k2 : KeptBut [] s.heap h2 := kept_all HW hg F2 (fun p hp => (N2 p (.tail _ hp)).1)
  have d0 : s.heap.get? D2 = none := none_of_g hg (N2 (D2, _) (.head _)).2.2 (by simp only [List.forall_mem_cons]; refine ⟨?_, ?_, ?_, fun p hp => by simp at hp⟩ <;> omega)
  refine wpAny_call (from_list_ct (Y.at (A' := _) (d' := 880) k2 (by show A.depth + 1 + 860 ≤ A.depth + 880; omega) (by show A.units + 3 + 860 * 8 ≤ A.units + 880 * 8; omega) rfl) (N2.get (a := D2) (.head _)) I O.set.nd (stays_none Y.k d0) hbd fun h3 tk3 a3 dx3 k3 n1 n2 O3 => ?_)
  exact h h3 _ a3 dx3 D2 (k2.comp k3) (kept_none k2 n1) (kept_none k2 n2) d0 O3
end Mine
end

section
open PySem PySem.W PyProof.Rows
theorem Mine.rs_UN1 {M : Model} {A : Around} {s : Shared} {v : Value} {Q : Bool → Shared → Prop} {E : Value → Shared → Prop} (h : wpAny M A (truthy v) Q E s) : wpAny M A (truthy v) Q E s := by
  first | (walk1; fail) | exact h
end

section
open PySem PySem.W PyProof.Rows PySem.Builtin.Frozenset PySem.Calls
set_option Elab.async false
set_option maxRecDepth 100000
set_option maxHeartbeats 4000000
namespace Mine

local macro_rules | `(tactic| k_inst) => `(tactic| (refine' OSet.inst ?O ?N ?h1 ?h2; (case N => k_asm); (case O => k_asm); (case h1 => k_mem); (case h2 => k_mem)))
local macro_rules | `(tactic| walk_at "compareOp NotIn int ref") => `(tactic| (k_here; k_dflt (refine' notin_N ?F ?X ?N ?m ?O ?b ?_; (case F => k_asm); (case X => k_asm); (case N => k_asm); (case O => k_asm); (case m => k_mem); (case b => (first | assumption | (unfold scanBound; omega))))))
local macro_rules | `(tactic| walk_at "compareOp In int ref") => `(tactic| (k_here; k_dflt (refine' in_N ?F ?X ?N ?m ?O ?b ?_; (case F => k_asm); (case X => k_asm); (case N => k_asm); (case O => k_asm); (case m => k_mem); (case b => (first | assumption | (unfold scanBound; omega))))))
local macro_rules | `(tactic| walk_at "getAttr ref") => `(tactic| (k_here; (with_reducible show wpAny _ _ (getAttr (Value.ref _) (Str.ofString "_list") _) _ _ _); k_dflt (refine' list_N ?F ?X ?N ?m ?O ?n ?_; (case F => k_asm); (case X => k_asm); (case N => k_asm); (case O => k_asm); (case m => k_mem); (case n => k_mem))))
local macro_rules | `(tactic| walk_at "call builtin:set.add") => `(tactic| (k_here; (with_reducible show wpAny _ _ (call (Value.builtin "set.add") [Value.ref _, Value.int _ _]) _ _ _); k_dflt (refine' add_N ?F ?X ?N ?U ?O ?b ?_; (case F => k_asm); (case X => k_asm); (case N => k_asm); (case O => k_asm); (case U => k_updF); (case b => (first | assumption | (unfold scanBound; omega)))); intro h' tk' o' F' N' O'; (try dsimp only at N')))
local macro_rules | `(tactic| walk_at "getMethod") => `(tactic| (k_here; (with_reducible show wpAny _ _ (getMethod (Value.type "set") _ _) _ _ _); (with_reducible refine' getMethod_setT ?F ?X ?e ?h ?_); k_dflt ((case F => k_asm); (case X => k_asm); (case e => first | with_reducible exact k_set_add | with_reducible exact k_set_remove | with_reducible exact k_set_update | with_reducible exact k_set_init | with_reducible exact k_set_inter | with_reducible exact k_set_diff | with_reducible exact k_set_interu | with_reducible exact k_set_diffu | with_reducible exact k_set_symu); (case h => rfl))))
local macro_rules | `(tactic| walk_at "call builtin:set.remove") => `(tactic| (k_here; (with_reducible show wpAny _ _ (call (Value.builtin "set.remove") [Value.ref _, Value.int _ _]) _ _ _); k_dflt (refine' remove_N ?F ?X ?N ?U ?O ?b ?k ?_; (case F => k_asm); (case X => k_asm); (case N => k_asm); (case O => k_asm); (case U => k_updF); (case b => (first | assumption | (unfold scanBound; omega))); (case k => assumption)); intro h' tk' o' F' N' O'; (try dsimp only at N')))
local macro_rules | `(tactic| walk_at "eval Call Attribute") => `(tactic| (k_here; k_dflt (refine methodCall_star (by rfl) (by rfl) ?_)))
local macro_rules | `(tactic| walk_at "getAttr") => `(tactic| (k_here; (with_reducible show wpAny _ _ (getAttr (Value.type "set") _ _) _ _ _); k_dflt (refine' getAttr_setT ?X ?e ?h ?_; (case X => k_in); (case e => first | with_reducible exact k_set_inter | with_reducible exact k_set_diff | with_reducible exact k_set_interu | with_reducible exact k_set_diffu); (case h => rfl))))
local macro_rules | `(tactic| walk_at "callWith") => `(tactic| (k_here; (with_reducible show wpAny _ _ (callWith _ (Value.builtin _) [] _ []) _ _ _); k_dflt (refine' callWith_starB ?b ?_ ?a ?c; (case a => rfl); (case c => rfl); (case b => exact fun _ => Looks.of_pure rfl))))

local macro_rules | `(tactic| walk_at "pyIter ref") => `(tactic| (k_here; (with_reducible show wpAny _ _ (pyIter (Value.ref _)) _ _ _); refine hold_in ?_))

theorem f_update {w : World} : findObj (hd.heap_39 w.params) 232 (some dictObj) "update" = some (.bind (.builtin "function.__get__") (.ref 135)) := by rfl
section
variable {w : World} {A : Around} {E : Value → Shared → Prop} {s : Shared} {h₀ : Heap} {L a dx l y : Addr} {m : Str → Option Value} {news : List (Addr × Obj)} {o : Obj} {xs ys : List Int}
theorem meth_attr_N {name : Str} {f : Addr} {expr : Bool} {Q : Value → Shared → Prop} (F : Fr h₀ L s.heap m) (X₀ : (hd.heap_39 w.params).In h₀) (N : News h₀ L s.heap news) (h1 : (a, o) ∈ news) (O : OSet w o dx l xs) (h2 : (dx, dictObj) ∈ news)
    (hf : findObj (hd.heap_39 w.params) 232 (some dictObj) name = some (.bind (.builtin "function.__get__") (.ref f))) (ht : typeIn (hd.heap_39 w.params) (.ref f) = some (.type "function"))
    (h : ∀ q h' tk, Fr h₀ L h' m → News h₀ L h' ((q, methodObj (.ref f) (.ref a)) :: news) → (∀ p ∈ news, p.1 < q) → KeptBut [] s.heap h' → s.heap.get? q = none → Q (.ref q) { s with heap := h', toks := tk }) :
    wpAny (model PySem.Challenge.rw_ep5040_01.row.prog w) A (getAttr (.ref a) name expr) Q E s := by
  have X := X₀.keeps F.keep
  refine getAttr_S X (O.inst N h1 h2) hf ?_
  refine wpAny_call ?_
  refine fn_get (s := { s with toks := s.toks + 1 }) (K := (hd.heap_39 w.params)) X ht ?_
  refine ⟨rfl, ?_⟩
  exact h _ _ _ (F.push _) (News.push F N _ rfl) (fun p hp => Heap.lt_size (N p hp).1) (kept_push _) (fresh_at _)

theorem callWith_starM {env : Env} {pos p : Pos} {q f : Addr} {self : Value} {e : Expr} {Q : Value → Shared → Prop} (hf : fnIn (hd.heap_39 w.params) f = true)
    (h : wpAny (model PySem.Challenge.rw_ep5040_01.row.prog w) A (eval e env) (fun v s₁ => StarOf (model PySem.Challenge.rw_ep5040_01.row.prog w) A E v (fun vs s₂ => MethP (hd.heap_39 w.params) q f self s₂.heap ∧ wpAny (model PySem.Challenge.rw_ep5040_01.row.prog w) A (call (.ref q) vs) Q E s₂) s₁) E s)
    (he : starEach [.Starred e p] env = [(true, eval e env)]) :
    wpAny (model PySem.Challenge.rw_ep5040_01.row.prog w) A (callWith pos (.ref q) [] (backTo pos (starEach [.Starred e p] env)) []) Q E s := by
  rw [he]
  exact ks_call (P := MethP (hd.heap_39 w.params) q f self) rfl (keeps_M hf) (ks_lone h)
end

theorem update0_ct {w : World} {s₀ : Shared} {mg mb : Str → Option Value} {hb : Heap} {A : Around} {s : Shared} {R : Result → Shared → Prop} {a dx l : Addr} {xs : List Int} (Y : Ct w s₀ mg mb hb A s 900) (O : OSAt w hb s.heap a dx l xs)
    (h : ∀ h' tk', KeptBut [a, l] s.heap h' → OSAt w hb h' a dx l xs → R (.ok (.ret .none)) { s with heap := h', toks := tk' }) :
    codeAny (model PySem.Challenge.rw_ep5040_01.row.prog w) A (.call (.ref 135) ⟨[.ref a], []⟩) R s := by
  obtain ⟨hadx, hal, hdl⟩ := O.ne
  obtain ⟨⟨o, vs, n, ha, hl, O, I⟩, hdx, ba, bd, bl⟩ := O
  have HW : ∀ p ∈ [(a, o), (dx, dictObj), (l, PySem.W.listOf vs.toArray n)], s.heap.get? p.1 = some p.2 := by simp [ha, hdx, hl]
  have HF : ∀ p ∈ [(a, o), (dx, dictObj), (l, PySem.W.listOf vs.toArray n)], hb.get? p.1 = none := by simp [ba, bd, bl]
  have KX0 := Y.C.K
  revert KX0
  k_fill
  intro KX0
  refine enterV (f := 135) (front := [(Str.ofString "self", Value.ref a)]) (nm := Str.ofString "iterables") (vs := ([] : List Value)) [(a, o), (dx, dictObj), (l, PySem.W.listOf vs.toArray n)] Y.C Y.k HW HF (Nat.lt_trans Y.depth (by unfold recursionLimit; decide)) rfl (by k_is) rfl (Nat.le_of_ble_eq_true rfl) (by intro y hy; rcases List.mem_cons.mp hy with rfl | hy; rfl; rw [List.mem_singleton.mp hy]; rfl) ?_
  intro g L' h₁ D hg Cg hsz hD hL F N hlt
  have KX := Cg.K
  have T := Cg.T
  have hh := Y.hand
  clear KX0
  k_steps
  unfold Hold
  rename Fr g L' h₁ _ => F
  rename IntsAre vs xs => I
  refine for_tup (src := [(D, tupObj [])]) (k := 0) (vs := []) (news := [(a, o), (dx, dictObj), (l, PySem.W.listOf vs.toArray n)])
    (fun i m nw => nw = [(a, o), (dx, dictObj), (l, PySem.W.listOf vs.toArray n)]) hh F N (by simp) rfl ?_ ?_
  · intro i v m₁ news₁ h tk I1 oI hv
    simp at hv
  · rintro h3 tk3 m3 news3 F3 N3 hadr3 rfl
    clear F N
    k_steps
    have N4 : News g L' h3 [(D, tupObj []), (a, o), (dx, dictObj), (l, PySem.W.listOf vs.toArray n)] := N3
    exact h _ _ (fin3 hg F3 hdx (N4.get (by k_mem)) (by simp)) (.mk' (N4.get (by k_mem)) (N4.get (by k_mem)) (N4.get (by k_mem)) O I ba bd bl)
end Mine
end

section
open PySem PySem.W PyProof.Rows
theorem Mine.rs_UN2 {M : Model} {A : Around} {s : Shared} {v : Value} {Q : Bool → Shared → Prop} {E : Value → Shared → Prop} (h : wpAny M A (truthy v) Q E s) : wpAny M A (truthy v) Q E s := by
  first | (walk1; fail) | exact h
end

section
open PySem PySem.W PyProof.Rows PySem.Builtin.Frozenset PySem.Calls
set_option Elab.async false
set_option maxRecDepth 100000
set_option maxHeartbeats 4000000
namespace Mine

local macro_rules | `(tactic| k_inst) => `(tactic| (refine' OSet.inst ?O ?N ?h1 ?h2; (case N => k_asm); (case O => k_asm); (case h1 => k_mem); (case h2 => k_mem)))
local macro_rules | `(tactic| walk_at "compareOp NotIn int ref") => `(tactic| (k_here; k_dflt (refine' notin_N ?F ?X ?N ?m ?O ?b ?_; (case F => k_asm); (case X => k_asm); (case N => k_asm); (case O => k_asm); (case m => k_mem); (case b => (first | assumption | (unfold scanBound; omega))))))
local macro_rules | `(tactic| walk_at "compareOp In int ref") => `(tactic| (k_here; k_dflt (refine' in_N ?F ?X ?N ?m ?O ?b ?_; (case F => k_asm); (case X => k_asm); (case N => k_asm); (case O => k_asm); (case m => k_mem); (case b => (first | assumption | (unfold scanBound; omega))))))
local macro_rules | `(tactic| walk_at "getAttr ref") => `(tactic| (k_here; (with_reducible show wpAny _ _ (getAttr (Value.ref _) (Str.ofString "_list") _) _ _ _); k_dflt (refine' list_N ?F ?X ?N ?m ?O ?n ?_; (case F => k_asm); (case X => k_asm); (case N => k_asm); (case O => k_asm); (case m => k_mem); (case n => k_mem))))
local macro_rules | `(tactic| walk_at "call builtin:set.add") => `(tactic| (k_here; (with_reducible show wpAny _ _ (call (Value.builtin "set.add") [Value.ref _, Value.int _ _]) _ _ _); k_dflt (refine' add_N ?F ?X ?N ?U ?O ?b ?_; (case F => k_asm); (case X => k_asm); (case N => k_asm); (case O => k_asm); (case U => k_updF); (case b => (first | assumption | (unfold scanBound; omega)))); intro h' tk' o' F' N' O'; (try dsimp only at N')))
local macro_rules | `(tactic| walk_at "getMethod") => `(tactic| (k_here; (with_reducible show wpAny _ _ (getMethod (Value.type "set") _ _) _ _ _); (with_reducible refine' getMethod_setT ?F ?X ?e ?h ?_); k_dflt ((case F => k_asm); (case X => k_asm); (case e => first | with_reducible exact k_set_add | with_reducible exact k_set_remove | with_reducible exact k_set_update | with_reducible exact k_set_init | with_reducible exact k_set_inter | with_reducible exact k_set_diff | with_reducible exact k_set_interu | with_reducible exact k_set_diffu | with_reducible exact k_set_symu); (case h => rfl))))
local macro_rules | `(tactic| walk_at "call builtin:set.remove") => `(tactic| (k_here; (with_reducible show wpAny _ _ (call (Value.builtin "set.remove") [Value.ref _, Value.int _ _]) _ _ _); k_dflt (refine' remove_N ?F ?X ?N ?U ?O ?b ?k ?_; (case F => k_asm); (case X => k_asm); (case N => k_asm); (case O => k_asm); (case U => k_updF); (case b => (first | assumption | (unfold scanBound; omega))); (case k => assumption)); intro h' tk' o' F' N' O'; (try dsimp only at N')))
local macro_rules | `(tactic| walk_at "eval Call Attribute") => `(tactic| (k_here; k_dflt (refine methodCall_star (by rfl) (by rfl) ?_)))
local macro_rules | `(tactic| walk_at "getAttr") => `(tactic| (k_here; (with_reducible show wpAny _ _ (getAttr (Value.type "set") _ _) _ _ _); k_dflt (refine' getAttr_setT ?X ?e ?h ?_; (case X => k_in); (case e => first | with_reducible exact k_set_inter | with_reducible exact k_set_diff | with_reducible exact k_set_interu | with_reducible exact k_set_diffu); (case h => rfl))))
local macro_rules | `(tactic| walk_at "callWith") => `(tactic| (k_here; (with_reducible show wpAny _ _ (callWith _ (Value.builtin _) [] _ []) _ _ _); k_dflt (refine' callWith_starB ?b ?_ ?a ?c; (case a => rfl); (case c => rfl); (case b => exact fun _ => Looks.of_pure rfl))))

local macro_rules | `(tactic| walk_at "getMethod ref") => `(tactic| (k_here; (with_reducible show wpAny _ _ (getMethod (Value.ref _) _ _) _ _ _); k_dflt (refine' meth_N ?F ?X ?N ?m ?O ?n ?f ?t ?_; (case F => k_asm); (case X => k_asm); (case N => k_asm); (case O => k_asm); (case m => k_mem); (case n => k_mem); (case f => rfl); (case t => rfl))))
theorem union0_ct {w : World} {s₀ : Shared} {mg mb : Str → Option Value} {hb : Heap} {A : Around} {s : Shared} {R : Result → Shared → Prop} {a dx l : Addr} {xs : List Int} (Y : Ct w s₀ mg mb hb A s 840) (O : OSAt w hb s.heap a dx l xs) (hbd : xs.length < 100)
    (h : Born w hb [] s R xs) :
    codeAny (model PySem.Challenge.rw_ep5040_01.row.prog w) A (.call (.ref 149) ⟨[.ref a], []⟩) R s := by
  obtain ⟨hadx, hal, hdl⟩ := O.ne
  obtain ⟨⟨o, vs, n, ha, hl, O, I⟩, hdx, ba, bd, bl⟩ := O
  have HW : ∀ p ∈ [(a, o), (dx, dictObj), (l, PySem.W.listOf vs.toArray n)], s.heap.get? p.1 = some p.2 := by simp [ha, hdx, hl]
  have HF : ∀ p ∈ [(a, o), (dx, dictObj), (l, PySem.W.listOf vs.toArray n)], hb.get? p.1 = none := by simp [ba, bd, bl]
  have KX0 := Y.C.K
  revert KX0
  k_fill
  intro KX0
  refine enterV (f := 149) (front := [(Str.ofString "self", Value.ref a)]) (nm := Str.ofString "other") (vs := ([] : List Value)) [(a, o), (dx, dictObj), (l, PySem.W.listOf vs.toArray n)] Y.C Y.k HW HF (Nat.lt_trans Y.depth (by unfold recursionLimit; decide)) rfl (by k_is) rfl (Nat.le_of_ble_eq_true rfl) (by intro y hy; rcases List.mem_cons.mp hy with rfl | hy; rfl; rw [List.mem_singleton.mp hy]; rfl) ?_
  intro g L' h₁ D hg Cg hsz hD hL F N hlt
  have KX := Cg.K
  have T := Cg.T
  have hh := Y.hand
  clear KX0
  have k1 : KeptBut [] s.heap h₁ := kept_all HW hg F (fun p hp => (N p (.tail _ hp)).1)
  k_steps
  rename Fr g L' _ _ => F2
  rename News g L' _ _ => N2
  rename_i D2 c2 h2 l1
  have k2 : KeptBut [] s.heap h2 := kept_all HW hg F2 (fun p hp => (N2 p (.tail _ (.tail _ hp))).1)
  have d0 : s.heap.get? D2 = none := none_of_g hg (N2 (D2, _) (.head _)).2.2 (by simp only [List.forall_mem_cons]; refine ⟨?_, ?_, ?_, fun p hp => by simp at hp⟩ <;> omega)
  refine wpAny_call (from_list_ct (Y.at (A' := _) (d' := 880) k2 (by show A.depth + 1 + 840 ≤ A.depth + 880; omega) (by show A.units + 3 + 840 * 8 ≤ A.units + 880 * 8; omega) rfl) (N2.get (a := D2) (.head _)) I O.set.nd (stays_none Y.k d0) hbd fun h3 tk3 a3 dx3 k3 n1 n2 O3 => ?_)
  obtain ⟨⟨o3, vs3, n3, ha3, hl3, O3, I3⟩, hdx3, ba3, bd3, bl3⟩ := O3
  have F3 := fr_kept0 F2 k3
  have N3 : News g L' h3 [(D, tupObj []), (a3, o3), (dx3, dictObj), (D2, PySem.W.listOf vs3.toArray n3), (a, o), (dx, dictObj), (l, PySem.W.listOf vs.toArray n)] := by
    have q1 : ∀ b, h2.get? b = none → b ≠ L' ∧ g.get? b = none := fun b e => ⟨ne_none e (F2.ns.choose_spec.choose_spec.choose_spec.1), stays_none (fun b ob e => F2.keep b ob e) e⟩
    intro p hp
    simp only [List.mem_cons, List.not_mem_nil, or_false] at hp
    rcases hp with rfl | rfl | rfl | rfl | rfl | rfl | rfl
    · exact ⟨k3 _ _ (by simp) (N2 (D, tupObj []) (by simp)).1, (N2 (D, tupObj []) (by simp)).2⟩
    · exact ⟨ha3, q1 _ n1⟩
    · exact ⟨hdx3, q1 _ n2⟩
    · exact ⟨hl3, (N2 (D2, _) (.head _)).2⟩
    · exact ⟨k3 _ _ (by simp) (N2 (a, o) (by simp)).1, (N2 (a, o) (by simp)).2⟩
    · exact ⟨k3 _ _ (by simp) (N2 (dx, dictObj) (by simp)).1, (N2 (dx, dictObj) (by simp)).2⟩
    · exact ⟨k3 _ _ (by simp) (N2 (l, PySem.W.listOf vs.toArray n) (by simp)).1, (N2 (l, PySem.W.listOf vs.toArray n) (by simp)).2⟩
  clear F2 N2
  k_steps
  rename Fr g L' _ _ => F4
  rename News g L' _ _ => N4
  refine meth_attr_N F4 KX N4 (a := a3) (dx := dx3) (by k_mem) O3 (by k_mem) f_update rfl ?_
  intro q h5 tk5 F5 N5 _ k5 nq
  refine callWith_starM (f := 135) (self := .ref a3) (by rfl) ?_ (by rfl)
  refine ld F5 rfl ?_
  refine star_seq F5 N5 (a := D) (by k_mem) rfl rfl (.inr rfl) rfl (Nat.le_of_ble_eq_true rfl) ?_
  intro h6 F6 N6
  refine ⟨methP N6 (.head _) (KX.keeps F6.keep), ?_⟩
  refine call_meth N6 (.head _) ?_
  have k6 : KeptBut [] s.heap h6 := kept_all HW hg F6 (fun p hp => (N6 p (by simp only [List.mem_cons, List.not_mem_nil, or_false] at hp ⊢; simp [hp])).1)
  have s1 : s.heap.get? a3 = none := kept_none k2 n1
  have s2 : s.heap.get? dx3 = none := kept_none k2 n2
  refine update0_ct (Y.at (A' := _) (d' := 900) k6 (by show A.depth + 1 + 840 ≤ A.depth + 900; omega) (by show A.units + 3 + 840 * 8 ≤ A.units + 900 * 8; omega) rfl) (.mk' (N6.get (by k_mem)) (N6.get (by k_mem)) (N6.get (by k_mem)) O3 I3 ba3 bd3 bl3) fun h7 tk7 k7 O7 => ?_
  dsimp only
  have k8 : KeptBut [] s.heap h7 := fun b ob hb' e => k7 b ob (by simp; refine ⟨?_, ?_⟩; (rintro rfl; rw [s1] at e; cases e); (rintro rfl; rw [d0] at e; cases e)) (k6 b ob (by simp) e)
  have F7 := fr_kept F6 k7 (by simp; exact ⟨fun e => (N6 (a3, o3) (by simp)).2.1 e.symm, fun e => (N6 (D2, PySem.W.listOf vs3.toArray n3) (by simp)).2.1 e.symm⟩) (fun b hb' => by
    simp only [List.mem_cons, List.not_mem_nil, or_false] at hb'
    rcases hb' with rfl | rfl
    · exact (N6 (b, o3) (by simp)).2.2
    · exact (N6 (b, PySem.W.listOf vs3.toArray n3) (by simp)).2.2)
  clear F4 N4 F5 N5 F6 N6
  k_steps
  dsimp only
  exact h h7 _ a3 dx3 D2 k8 s1 s2 d0 O7
end Mine
end

section
open PySem PySem.W PyProof.Rows
theorem Mine.rs_UN3 {M : Model} {A : Around} {s : Shared} {v : Value} {Q : Bool → Shared → Prop} {E : Value → Shared → Prop} (h : wpAny M A (truthy v) Q E s) : wpAny M A (truthy v) Q E s := by
  first | (walk1; fail) | exact h
end

section
open PySem PySem.W PyProof.Rows PySem.Builtin.Frozenset PySem.Calls
set_option Elab.async false
set_option maxRecDepth 100000
set_option maxHeartbeats 4000000
namespace Mine

local macro_rules | `(tactic| k_inst) => `(tactic| (refine' OSet.inst ?O ?N ?h1 ?h2; (case N => k_asm); (case O => k_asm); (case h1 => k_mem); (case h2 => k_mem)))
local macro_rules | `(tactic| walk_at "compareOp NotIn int ref") => `(tactic| (k_here; k_dflt (refine' notin_N ?F ?X ?N ?m ?O ?b ?_; (case F => k_asm); (case X => k_asm); (case N => k_asm); (case O => k_asm); (case m => k_mem); (case b => (first | assumption | (unfold scanBound; omega))))))
local macro_rules | `(tactic| walk_at "compareOp In int ref") => `(tactic| (k_here; k_dflt (refine' in_N ?F ?X ?N ?m ?O ?b ?_; (case F => k_asm); (case X => k_asm); (case N => k_asm); (case O => k_asm); (case m => k_mem); (case b => (first | assumption | (unfold scanBound; omega))))))
local macro_rules | `(tactic| walk_at "getAttr ref") => `(tactic| (k_here; (with_reducible show wpAny _ _ (getAttr (Value.ref _) (Str.ofString "_list") _) _ _ _); k_dflt (refine' list_N ?F ?X ?N ?m ?O ?n ?_; (case F => k_asm); (case X => k_asm); (case N => k_asm); (case O => k_asm); (case m => k_mem); (case n => k_mem))))
local macro_rules | `(tactic| walk_at "call builtin:set.add") => `(tactic| (k_here; (with_reducible show wpAny _ _ (call (Value.builtin "set.add") [Value.ref _, Value.int _ _]) _ _ _); k_dflt (refine' add_N ?F ?X ?N ?U ?O ?b ?_; (case F => k_asm); (case X => k_asm); (case N => k_asm); (case O => k_asm); (case U => k_updF); (case b => (first | assumption | (unfold scanBound; omega)))); intro h' tk' o' F' N' O'; (try dsimp only at N')))
local macro_rules | `(tactic| walk_at "getMethod") => `(tactic| (k_here; (with_reducible show wpAny _ _ (getMethod (Value.type "set") _ _) _ _ _); (with_reducible refine' getMethod_setT ?F ?X ?e ?h ?_); k_dflt ((case F => k_asm); (case X => k_asm); (case e => first | with_reducible exact k_set_add | with_reducible exact k_set_remove | with_reducible exact k_set_update | with_reducible exact k_set_init | with_reducible exact k_set_inter | with_reducible exact k_set_diff | with_reducible exact k_set_interu | with_reducible exact k_set_diffu | with_reducible exact k_set_symu); (case h => rfl))))
local macro_rules | `(tactic| walk_at "call builtin:set.remove") => `(tactic| (k_here; (with_reducible show wpAny _ _ (call (Value.builtin "set.remove") [Value.ref _, Value.int _ _]) _ _ _); k_dflt (refine' remove_N ?F ?X ?N ?U ?O ?b ?k ?_; (case F => k_asm); (case X => k_asm); (case N => k_asm); (case O => k_asm); (case U => k_updF); (case b => (first | assumption | (unfold scanBound; omega))); (case k => assumption)); intro h' tk' o' F' N' O'; (try dsimp only at N')))
local macro_rules | `(tactic| walk_at "eval Call Attribute") => `(tactic| (k_here; k_dflt (refine methodCall_star (by rfl) (by rfl) ?_)))
local macro_rules | `(tactic| walk_at "getAttr") => `(tactic| (k_here; (with_reducible show wpAny _ _ (getAttr (Value.type "set") _ _) _ _ _); k_dflt (refine' getAttr_setT ?X ?e ?h ?_; (case X => k_in); (case e => first | with_reducible exact k_set_inter | with_reducible exact k_set_diff | with_reducible exact k_set_interu | with_reducible exact k_set_diffu); (case h => rfl))))
local macro_rules | `(tactic| walk_at "callWith") => `(tactic| (k_here; (with_reducible show wpAny _ _ (callWith _ (Value.builtin _) [] _ []) _ _ _); k_dflt (refine' callWith_starB ?b ?_ ?a ?c; (case a => rfl); (case c => rfl); (case b => exact fun _ => Looks.of_pure rfl))))

local macro_rules | `(tactic| walk_at "getMethod ref") => `(tactic| (k_here; (with_reducible show wpAny _ _ (getMethod (Value.ref _) _ _) _ _ _); k_dflt (refine' meth_N ?F ?X ?N ?m ?O ?n ?f ?t ?_; (case F => k_asm); (case X => k_asm); (case N => k_asm); (case O => k_asm); (case m => k_mem); (case n => k_mem); (case f => rfl); (case t => rfl))))
theorem union1_ct {w : World} {s₀ : Shared} {mg mb : Str → Option Value} {hb : Heap} {A : Around} {s : Shared} {R : Result → Shared → Prop} {a dx l y : Addr} {ws : List Value} {xs ys : List Int} (Y : Ct w s₀ mg mb hb A s 830) (O : OSAt w hb s.heap a dx l xs) (hy : s.heap.IsList y ws.toArray) (hI2 : IntsAre ws ys) (hbd : xs.length + ys.length < 100)
    (h : Born w hb [] s R (updL xs ys)) :
    codeAny (model PySem.Challenge.rw_ep5040_01.row.prog w) A (.call (.ref 149) ⟨[.ref a, .ref y], []⟩) R s := by
  obtain ⟨hadx, hal, hdl⟩ := O.ne
  obtain ⟨⟨o, vs, n, ha, hl, O, I⟩, hdx, ba, bd, bl⟩ := O
  have HW : ∀ p ∈ [(a, o), (dx, dictObj), (l, PySem.W.listOf vs.toArray n)], s.heap.get? p.1 = some p.2 := by simp [ha, hdx, hl]
  have HF : ∀ p ∈ [(a, o), (dx, dictObj), (l, PySem.W.listOf vs.toArray n)], hb.get? p.1 = none := by simp [ba, bd, bl]
  have KX0 := Y.C.K
  revert KX0
  k_fill
  intro KX0
  refine enterV (f := 149) (front := [(Str.ofString "self", Value.ref a)]) (nm := Str.ofString "other") (vs := [Value.ref y]) [(a, o), (dx, dictObj), (l, PySem.W.listOf vs.toArray n)] Y.C Y.k HW HF (Nat.lt_trans Y.depth (by unfold recursionLimit; decide)) rfl (by k_is) rfl (Nat.le_of_ble_eq_true rfl) (by intro y hy; rcases List.mem_cons.mp hy with rfl | hy; rfl; rw [List.mem_singleton.mp hy]; rfl) ?_
  intro g L' h₁ D hg Cg hsz hD hL F N hlt
  have KX := Cg.K
  have T := Cg.T
  have hh := Y.hand
  clear KX0
  have k1 : KeptBut [] s.heap h₁ := kept_all HW hg F (fun p hp => (N p (.tail _ hp)).1)
  k_steps
  rename Fr g L' _ _ => F2
  rename News g L' _ _ => N2
  rename_i D2 c2 h2 l1
  have k2 : KeptBut [] s.heap h2 := kept_all HW hg F2 (fun p hp => (N2 p (.tail _ (.tail _ hp))).1)
  have d0 : s.heap.get? D2 = none := none_of_g hg (N2 (D2, _) (.head _)).2.2 (by simp only [List.forall_mem_cons]; refine ⟨?_, ?_, ?_, fun p hp => by simp at hp⟩ <;> omega)
  refine wpAny_call (from_list_ct (Y.at (A' := _) (d' := 880) k2 (by show A.depth + 1 + 830 ≤ A.depth + 880; omega) (by show A.units + 3 + 830 * 8 ≤ A.units + 880 * 8; omega) rfl) (N2.get (a := D2) (.head _)) I O.set.nd (stays_none Y.k d0) (by omega) fun h3 tk3 a3 dx3 k3 n1 n2 O3 => ?_)
  obtain ⟨⟨o3, vs3, n3, ha3, hl3, O3, I3⟩, hdx3, ba3, bd3, bl3⟩ := O3
  have F3 := fr_kept0 F2 k3
  have N3 : News g L' h3 [(D, tupObj [Value.ref y]), (a3, o3), (dx3, dictObj), (D2, PySem.W.listOf vs3.toArray n3), (a, o), (dx, dictObj), (l, PySem.W.listOf vs.toArray n)] := by
    have q1 : ∀ b, h2.get? b = none → b ≠ L' ∧ g.get? b = none := fun b e => ⟨ne_none e (F2.ns.choose_spec.choose_spec.choose_spec.1), stays_none (fun b ob e => F2.keep b ob e) e⟩
    intro p hp
    simp only [List.mem_cons, List.not_mem_nil, or_false] at hp
    rcases hp with rfl | rfl | rfl | rfl | rfl | rfl | rfl
    · exact ⟨k3 _ _ (by simp) (N2 (D, tupObj [Value.ref y]) (by simp)).1, (N2 (D, tupObj [Value.ref y]) (by simp)).2⟩
    · exact ⟨ha3, q1 _ n1⟩
    · exact ⟨hdx3, q1 _ n2⟩
    · exact ⟨hl3, (N2 (D2, _) (.head _)).2⟩
    · exact ⟨k3 _ _ (by simp) (N2 (a, o) (by simp)).1, (N2 (a, o) (by simp)).2⟩
    · exact ⟨k3 _ _ (by simp) (N2 (dx, dictObj) (by simp)).1, (N2 (dx, dictObj) (by simp)).2⟩
    · exact ⟨k3 _ _ (by simp) (N2 (l, PySem.W.listOf vs.toArray n) (by simp)).1, (N2 (l, PySem.W.listOf vs.toArray n) (by simp)).2⟩
  clear F2 N2
  k_steps
  rename Fr g L' _ _ => F4
  rename News g L' _ _ => N4
  refine meth_attr_N F4 KX N4 (a := a3) (dx := dx3) (by k_mem) O3 (by k_mem) f_update rfl ?_
  intro q h5 tk5 F5 N5 _ k5 nq
  refine callWith_starM (f := 135) (self := .ref a3) (by rfl) ?_ (by rfl)
  refine ld F5 rfl ?_
  refine star_seq F5 N5 (a := D) (by k_mem) rfl rfl (.inr rfl) rfl (Nat.le_of_ble_eq_true rfl) ?_
  intro h6 F6 N6
  refine ⟨methP N6 (.head _) (KX.keeps F6.keep), ?_⟩
  refine call_meth N6 (.head _) ?_
  have k6 : KeptBut [] s.heap h6 := kept_all HW hg F6 (fun p hp => (N6 p (by simp only [List.mem_cons, List.not_mem_nil, or_false] at hp ⊢; simp [hp])).1)
  have s1 : s.heap.get? a3 = none := kept_none k2 n1
  have s2 : s.heap.get? dx3 = none := kept_none k2 n2
  refine update_ct (Y.at (A' := _) (d' := 900) k6 (by show A.depth + 1 + 830 ≤ A.depth + 900; omega) (by show A.units + 3 + 830 * 8 ≤ A.units + 900 * 8; omega) rfl) (.mk' (N6.get (by k_mem)) (N6.get (by k_mem)) (N6.get (by k_mem)) O3 I3 ba3 bd3 bl3) (let ⟨oy, hoy, r⟩ := hy; ⟨oy, k6 _ _ (by simp) hoy, r⟩) (by obtain ⟨oy, hoy, _⟩ := hy; rintro rfl; rw [d0] at hoy; cases hoy) hI2 hbd fun h7 tk7 k7 O7 => ?_
  dsimp only
  have k8 : KeptBut [] s.heap h7 := fun b ob hb' e => k7 b ob (by simp; refine ⟨?_, ?_⟩; (rintro rfl; rw [s1] at e; cases e); (rintro rfl; rw [d0] at e; cases e)) (k6 b ob (by simp) e)
  have F7 := fr_kept F6 k7 (by simp; exact ⟨fun e => (N6 (a3, o3) (by simp)).2.1 e.symm, fun e => (N6 (D2, PySem.W.listOf vs3.toArray n3) (by simp)).2.1 e.symm⟩) (fun b hb' => by
    simp only [List.mem_cons, List.not_mem_nil, or_false] at hb'
    rcases hb' with rfl | rfl
    · exact (N6 (b, o3) (by simp)).2.2
    · exact (N6 (b, PySem.W.listOf vs3.toArray n3) (by simp)).2.2)
  clear F4 N4 F5 N5 F6 N6
  k_steps
  dsimp only
  exact h h7 _ a3 dx3 D2 k8 s1 s2 d0 O7

theorem addop_ct {w : World} {s₀ : Shared} {mg mb : Str → Option Value} {hb : Heap} {A : Around} {s : Shared} {R : Result → Shared → Prop} {a dx l y : Addr} {ws : List Value} {xs ys : List Int} (Y : Ct w s₀ mg mb hb A s 820) (O : OSAt w hb s.heap a dx l xs) (hy : s.heap.IsList y ws.toArray) (hI2 : IntsAre ws ys) (hbd : xs.length + ys.length < 100)
    (h : Born w hb [] s R (updL xs ys)) :
    codeAny (model PySem.Challenge.rw_ep5040_01.row.prog w) A (.call (.ref 121) ⟨[.ref a, .ref y], []⟩) R s := by
  obtain ⟨hadx, hal, hdl⟩ := O.ne
  obtain ⟨⟨o, vs, n, ha, hl, O, I⟩, hdx, ba, bd, bl⟩ := O
  have HW : ∀ p ∈ [(a, o), (dx, dictObj), (l, PySem.W.listOf vs.toArray n)], s.heap.get? p.1 = some p.2 := by simp [ha, hdx, hl]
  have HF : ∀ p ∈ [(a, o), (dx, dictObj), (l, PySem.W.listOf vs.toArray n)], hb.get? p.1 = none := by simp [ba, bd, bl]
  have KX0 := Y.C.K
  revert KX0
  k_fill
  intro KX0
  refine enter (f := 121) (binds := [(Str.ofString "self", Value.ref a), (Str.ofString "other", Value.ref y)]) [(a, o), (dx, dictObj), (l, PySem.W.listOf vs.toArray n)] Y.C Y.k HW HF (Nat.lt_trans Y.depth (by unfold recursionLimit; decide)) rfl (by k_is) (BindsTo.of_eq rfl) (locs rfl) ?_
  intro g L' h₁ hg Cg hsz hL F N
  have KX := Cg.K
  have T := Cg.T
  have hh := Y.hand
  clear KX0
  have k1 : KeptBut [] s.heap h₁ := kept_all HW hg F (fun p hp => (N p hp).1)
  k_steps
  refine wpAny_call (union1_ct (Y.at (A' := _) (d' := 830) k1 (by show A.depth + 1 + 820 ≤ A.depth + 830; omega) (by show A.units + 3 + 820 * 8 ≤ A.units + 830 * 8; omega) rfl) (.mk' (N.get (by k_mem)) (N.get (by k_mem)) (N.get (by k_mem)) O I ba bd bl) (let ⟨oy, hoy, r⟩ := hy; ⟨oy, k1 _ _ (by simp) hoy, r⟩) hI2 hbd fun h3 tk3 a3 dx3 D3 k3 n1 n2 n3 O3 => ?_)
  exact h h3 _ a3 dx3 D3 (k1.comp k3) (kept_none k1 n1) (kept_none k1 n2) (kept_none k1 n3) O3
end Mine
end

section
open PySem PySem.W PyProof.Rows
theorem Mine.rs_IT1 {M : Model} {A : Around} {s : Shared} {v : Value} {Q : Bool → Shared → Prop} {E : Value → Shared → Prop} (h : wpAny M A (truthy v) Q E s) : wpAny M A (truthy v) Q E s := by
  first | (walk1; fail) | exact h
end

section
open PySem PySem.W PyProof.Rows PySem.Builtin.Frozenset PySem.Calls
set_option Elab.async false
set_option maxRecDepth 100000
set_option maxHeartbeats 4000000
namespace Mine

local macro_rules | `(tactic| k_inst) => `(tactic| (refine' OSet.inst ?O ?N ?h1 ?h2; (case N => k_asm); (case O => k_asm); (case h1 => k_mem); (case h2 => k_mem)))
local macro_rules | `(tactic| walk_at "compareOp NotIn int ref") => `(tactic| (k_here; k_dflt (refine' notin_N ?F ?X ?N ?m ?O ?b ?_; (case F => k_asm); (case X => k_asm); (case N => k_asm); (case O => k_asm); (case m => k_mem); (case b => (first | assumption | (unfold scanBound; omega))))))
local macro_rules | `(tactic| walk_at "compareOp In int ref") => `(tactic| (k_here; k_dflt (refine' in_N ?F ?X ?N ?m ?O ?b ?_; (case F => k_asm); (case X => k_asm); (case N => k_asm); (case O => k_asm); (case m => k_mem); (case b => (first | assumption | (unfold scanBound; omega))))))
local macro_rules | `(tactic| walk_at "getAttr ref") => `(tactic| (k_here; (with_reducible show wpAny _ _ (getAttr (Value.ref _) (Str.ofString "_list") _) _ _ _); k_dflt (refine' list_N ?F ?X ?N ?m ?O ?n ?_; (case F => k_asm); (case X => k_asm); (case N => k_asm); (case O => k_asm); (case m => k_mem); (case n => k_mem))))
local macro_rules | `(tactic| walk_at "call builtin:set.add") => `(tactic| (k_here; (with_reducible show wpAny _ _ (call (Value.builtin "set.add") [Value.ref _, Value.int _ _]) _ _ _); k_dflt (refine' add_N ?F ?X ?N ?U ?O ?b ?_; (case F => k_asm); (case X => k_asm); (case N => k_asm); (case O => k_asm); (case U => k_updF); (case b => (first | assumption | (unfold scanBound; omega)))); intro h' tk' o' F' N' O'; (try dsimp only at N')))
local macro_rules | `(tactic| walk_at "getMethod") => `(tactic| (k_here; (with_reducible show wpAny _ _ (getMethod (Value.type "set") _ _) _ _ _); (with_reducible refine' getMethod_setT ?F ?X ?e ?h ?_); k_dflt ((case F => k_asm); (case X => k_asm); (case e => first | with_reducible exact k_set_add | with_reducible exact k_set_remove | with_reducible exact k_set_update | with_reducible exact k_set_init | with_reducible exact k_set_inter | with_reducible exact k_set_diff | with_reducible exact k_set_interu | with_reducible exact k_set_diffu | with_reducible exact k_set_symu); (case h => rfl))))
local macro_rules | `(tactic| walk_at "call builtin:set.remove") => `(tactic| (k_here; (with_reducible show wpAny _ _ (call (Value.builtin "set.remove") [Value.ref _, Value.int _ _]) _ _ _); k_dflt (refine' remove_N ?F ?X ?N ?U ?O ?b ?k ?_; (case F => k_asm); (case X => k_asm); (case N => k_asm); (case O => k_asm); (case U => k_updF); (case b => (first | assumption | (unfold scanBound; omega))); (case k => assumption)); intro h' tk' o' F' N' O'; (try dsimp only at N')))
local macro_rules | `(tactic| walk_at "eval Call Attribute") => `(tactic| (k_here; k_dflt (refine methodCall_star (by rfl) (by rfl) ?_)))
local macro_rules | `(tactic| walk_at "getAttr") => `(tactic| (k_here; (with_reducible show wpAny _ _ (getAttr (Value.type "set") _ _) _ _ _); k_dflt (refine' getAttr_setT ?X ?e ?h ?_; (case X => k_in); (case e => first | with_reducible exact k_set_inter | with_reducible exact k_set_diff | with_reducible exact k_set_interu | with_reducible exact k_set_diffu); (case h => rfl))))
local macro_rules | `(tactic| walk_at "callWith") => `(tactic| (k_here; (with_reducible show wpAny _ _ (callWith _ (Value.builtin _) [] _ []) _ _ _); k_dflt (refine' callWith_starB ?b ?_ ?a ?c; (case a => rfl); (case c => rfl); (case b => exact fun _ => Looks.of_pure rfl))))

local macro_rules | `(tactic| walk_at "eval ListComp") => `(tactic| (k_here; refine hold_in ?_))

local macro_rules | `(tactic| walk_at "getMethod ref") => `(tactic| (k_here; (with_reducible show wpAny _ _ (getMethod (Value.ref _) _ _) _ _ _); k_dflt (refine' meth_N ?F ?X ?N ?m ?O ?n ?f ?t ?_; (case F => k_asm); (case X => k_asm); (case N => k_asm); (case O => k_asm); (case m => k_mem); (case n => k_mem); (case f => rfl); (case t => rfl))))
theorem filter_self {xs zs : List Int} (h : ∀ k, k ∈ zs ↔ k ∈ xs) : (xs.filter fun z => decide (z ∈ zs)) = xs := List.filter_eq_self.mpr fun k hk => by simp [h k, hk]

theorem has_set {M : Model} {h : Heap} : Looks M h (typeLookup (.type "set") "__contains__") (some (.builtin "set.__contains__")) := Looks.of_pure (by rw [typeLookup_type, builtinLookup_eq_fast]; kernel_rfl)

theorem inter0_ct {w : World} {s₀ : Shared} {mg mb : Str → Option Value} {hb : Heap} {A : Around} {s : Shared} {R : Result → Shared → Prop} {a dx l : Addr} {xs : List Int} (Y : Ct w s₀ mg mb hb A s 840) (O : OSAt w hb s.heap a dx l xs) (hsm : Small xs) (hbd : xs.length ≤ 16)
    (h : Born w hb [] s R xs) :
    codeAny (model PySem.Challenge.rw_ep5040_01.row.prog w) A (.call (.ref 161) ⟨[.ref a], []⟩) R s := by
  obtain ⟨hadx, hal, hdl⟩ := O.ne
  obtain ⟨⟨o, vs, n, ha, hl, O, I⟩, hdx, ba, bd, bl⟩ := O
  have HW : ∀ p ∈ [(a, o), (dx, dictObj), (l, PySem.W.listOf vs.toArray n)], s.heap.get? p.1 = some p.2 := by simp [ha, hdx, hl]
  have HF : ∀ p ∈ [(a, o), (dx, dictObj), (l, PySem.W.listOf vs.toArray n)], hb.get? p.1 = none := by simp [ba, bd, bl]
  have KX0 := Y.C.K
  revert KX0
  k_fill
  intro KX0
  refine enterVC (f := 161) (front := [(Str.ofString "self", Value.ref a)]) (nm := Str.ofString "other") (vs := ([] : List Value)) [(a, o), (dx, dictObj), (l, PySem.W.listOf vs.toArray n)] Y.C Y.k HW HF (Nat.lt_trans Y.depth (by unfold recursionLimit; decide)) rfl (by k_is) rfl (Nat.le_of_ble_eq_true rfl) (fun n v => kindsX (by rfl) n) (by decide +kernel) ?_
  intro g L' h₁ tk D cells hg Cg hsz hD hL F N CY hlt hltD
  have KX := Cg.K
  have T := Cg.T
  have hh := Y.hand
  clear KX0
  obtain ⟨oc, rfl, dc⟩ := CellsAre.one CY
  clear CY
  simp only [List.cons_append, List.nil_append] at N
  have k1 : KeptBut [] s.heap h₁ := kept_all HW hg F (fun p hp => (N p (.tail _ (.tail _ hp))).1)
  have dc' : oc.data = .cell none := dc
  simp only [List.forall_mem_cons] at hlt hltD
  obtain ⟨q1, q2, q3, q4, _⟩ := hlt
  obtain ⟨q5, q6, q7, _⟩ := hltD
  replace q1 : @LT.lt Nat _ D L' := q1
  replace q2 : @LT.lt Nat _ a L' := q2
  replace q3 : @LT.lt Nat _ dx L' := q3
  replace q4 : @LT.lt Nat _ l L' := q4
  replace q5 : @LT.lt Nat _ a D := q5
  replace q6 : @LT.lt Nat _ dx D := q6
  replace q7 : @LT.lt Nat _ l D := q7
  k_steps
  rename Fr g L' _ _ => F2
  rename News g L' _ _ => N2
  refine call_inter0 (N2.get (a := a) (by k_mem)) (O.setCls (KX.keeps F2.keep)) O.set hsm hbd ?_
  intro r h3 or k3 nr er hcr hdr hsr Sr
  have n1 := ne_none nr (N2.get (a := a) (by k_mem))
  have n2 := ne_none nr (N2.get (a := dx) (by k_mem))
  have n3 := ne_none nr (N2.get (a := D) (by k_mem))
  have n4 := ne_none nr (N2.get (a := L' + 1) (by k_mem))
  have n5 := ne_none nr (N2.get (a := l) (by k_mem))
  have N3 := news_new F2 N2 k3 nr er
  have F3 := fr_kept0 F2 k3
  clear F2 N2
  k_steps
  unfold Hold
  rename Fr g L' _ _ => F4
  rename News g L' _ _ => N4
  have d1 := ‹_ = Data.cell (some (Value.ref r))›
  refine filt_N (l := l) (vs := vs) (xs := xs) (fun z => decide (z ∈ xs)) hh F4 N4 ⟨_, N4.get (by k_mem), rfl, n, rfl⟩ I (by omega) (by with_unfolding_all rfl) (by decide) (by rfl) (by decide) (by rfl) (by decide) ?_ ?_ ?_
  · k_steps
  · intro C k t s3 m3 E' hns hm hk
    exact test_in Sr (hk _ _ (N4.get (by k_mem))) (by rw [hcr]; exact setCls_set) (by rw [hcr]; exact has_set) (by unfold scanBound; omega) (hk _ _ (N4.get (by k_mem))) d1 (by rfl) (by rfl) (by rfl) (by rfl) hns hm
  · intro D2 h5 tk5 n5' F5 N5 I5 hD0
    rw [filter_self (fun k => Iff.rfl)] at I5
    have k5 : KeptBut [] s.heap h5 := kept_all HW hg F5 (fun p hp => (N5 p (by simp only [List.mem_cons, List.not_mem_nil, or_false] at hp ⊢; simp [hp])).1)
    have d0 : s.heap.get? D2 = none := none_of_g hg (N5 (D2, _) (.head _)).2.2 (by
      simp only [List.forall_mem_cons]
      have m1 := ne_none hD0 (N4.get (a := a) (by k_mem))
      have m2 := ne_none hD0 (N4.get (a := dx) (by k_mem))
      have m5 := ne_none hD0 (N4.get (a := l) (by k_mem))
      exact ⟨Ne.symm m1, Ne.symm m2, Ne.symm m5, fun p hp => by simp at hp⟩)
    clear F4 N4
    k_steps
    refine wpAny_call (from_list_ct (Y.at (A' := _) (d' := 880) k5 (by show A.depth + 1 + 840 ≤ A.depth + 880; omega) (by show A.units + 3 + 840 * 8 ≤ A.units + 880 * 8; omega) rfl) (N5.get (a := D2) (.head _)) I5 O.set.nd (stays_none Y.k d0) (by omega) fun h6 tk6 a6 dx6 k6 m1 m2 O6 => ?_)
    exact h h6 _ a6 dx6 D2 (k5.comp k6) (kept_none k5 m1) (kept_none k5 m2) d0 O6
end Mine
end

section
open PySem PySem.W PyProof.Rows
theorem Mine.rs_IT2 {M : Model} {A : Around} {s : Shared} {v : Value} {Q : Bool → Shared → Prop} {E : Value → Shared → Prop} (h : wpAny M A (truthy v) Q E s) : wpAny M A (truthy v) Q E s := by
  first | (walk1; fail) | exact h
end

section
open PySem PySem.W PyProof.Rows PySem.Builtin.Frozenset PySem.Calls
set_option Elab.async false
set_option maxRecDepth 100000
set_option maxHeartbeats 4000000
namespace Mine

local macro_rules | `(tactic| k_inst) => `(tactic| (refine' OSet.inst ?O ?N ?h1 ?h2; (case N => k_asm); (case O => k_asm); (case h1 => k_mem); (case h2 => k_mem)))
local macro_rules | `(tactic| walk_at "compareOp NotIn int ref") => `(tactic| (k_here; k_dflt (refine' notin_N ?F ?X ?N ?m ?O ?b ?_; (case F => k_asm); (case X => k_asm); (case N => k_asm); (case O => k_asm); (case m => k_mem); (case b => (first | assumption | (unfold scanBound; omega))))))
local macro_rules | `(tactic| walk_at "compareOp In int ref") => `(tactic| (k_here; k_dflt (refine' in_N ?F ?X ?N ?m ?O ?b ?_; (case F => k_asm); (case X => k_asm); (case N => k_asm); (case O => k_asm); (case m => k_mem); (case b => (first | assumption | (unfold scanBound; omega))))))
local macro_rules | `(tactic| walk_at "getAttr ref") => `(tactic| (k_here; (with_reducible show wpAny _ _ (getAttr (Value.ref _) (Str.ofString "_list") _) _ _ _); k_dflt (refine' list_N ?F ?X ?N ?m ?O ?n ?_; (case F => k_asm); (case X => k_asm); (case N => k_asm); (case O => k_asm); (case m => k_mem); (case n => k_mem))))
local macro_rules | `(tactic| walk_at "call builtin:set.add") => `(tactic| (k_here; (with_reducible show wpAny _ _ (call (Value.builtin "set.add") [Value.ref _, Value.int _ _]) _ _ _); k_dflt (refine' add_N ?F ?X ?N ?U ?O ?b ?_; (case F => k_asm); (case X => k_asm); (case N => k_asm); (case O => k_asm); (case U => k_updF); (case b => (first | assumption | (unfold scanBound; omega)))); intro h' tk' o' F' N' O'; (try dsimp only at N')))
local macro_rules | `(tactic| walk_at "getMethod") => `(tactic| (k_here; (with_reducible show wpAny _ _ (getMethod (Value.type "set") _ _) _ _ _); (with_reducible refine' getMethod_setT ?F ?X ?e ?h ?_); k_dflt ((case F => k_asm); (case X => k_asm); (case e => first | with_reducible exact k_set_add | with_reducible exact k_set_remove | with_reducible exact k_set_update | with_reducible exact k_set_init | with_reducible exact k_set_inter | with_reducible exact k_set_diff | with_reducible exact k_set_interu | with_reducible exact k_set_diffu | with_reducible exact k_set_symu); (case h => rfl))))
local macro_rules | `(tactic| walk_at "call builtin:set.remove") => `(tactic| (k_here; (with_reducible show wpAny _ _ (call (Value.builtin "set.remove") [Value.ref _, Value.int _ _]) _ _ _); k_dflt (refine' remove_N ?F ?X ?N ?U ?O ?b ?k ?_; (case F => k_asm); (case X => k_asm); (case N => k_asm); (case O => k_asm); (case U => k_updF); (case b => (first | assumption | (unfold scanBound; omega))); (case k => assumption)); intro h' tk' o' F' N' O'; (try dsimp only at N')))
local macro_rules | `(tactic| walk_at "eval Call Attribute") => `(tactic| (k_here; k_dflt (refine methodCall_star (by rfl) (by rfl) ?_)))
local macro_rules | `(tactic| walk_at "getAttr") => `(tactic| (k_here; (with_reducible show wpAny _ _ (getAttr (Value.type "set") _ _) _ _ _); k_dflt (refine' getAttr_setT ?X ?e ?h ?_; (case X => k_in); (case e => first | with_reducible exact k_set_inter | with_reducible exact k_set_diff | with_reducible exact k_set_interu | with_reducible exact k_set_diffu); (case h => rfl))))
local macro_rules | `(tactic| walk_at "callWith") => `(tactic| (k_here; (with_reducible show wpAny _ _ (callWith _ (Value.builtin _) [] _ []) _ _ _); k_dflt (refine' callWith_starB ?b ?_ ?a ?c; (case a => rfl); (case c => rfl); (case b => exact fun _ => Looks.of_pure rfl))))

local macro_rules | `(tactic| walk_at "eval ListComp") => `(tactic| (k_here; refine hold_in ?_))

local macro_rules | `(tactic| walk_at "getMethod ref") => `(tactic| (k_here; (with_reducible show wpAny _ _ (getMethod (Value.ref _) _ _) _ _ _); k_dflt (refine' meth_N ?F ?X ?N ?m ?O ?n ?f ?t ?_; (case F => k_asm); (case X => k_asm); (case N => k_asm); (case O => k_asm); (case m => k_mem); (case n => k_mem); (case f => rfl); (case t => rfl))))
theorem diff0_ct {w : World} {s₀ : Shared} {mg mb : Str → Option Value} {hb : Heap} {A : Around} {s : Shared} {R : Result → Shared → Prop} {a dx l : Addr} {xs : List Int} (Y : Ct w s₀ mg mb hb A s 840) (O : OSAt w hb s.heap a dx l xs) (hsm : Small xs) (hbd : xs.length ≤ 16)
    (h : Born w hb [] s R xs) :
    codeAny (model PySem.Challenge.rw_ep5040_01.row.prog w) A (.call (.ref 185) ⟨[.ref a], []⟩) R s := by
  obtain ⟨hadx, hal, hdl⟩ := O.ne
  obtain ⟨⟨o, vs, n, ha, hl, O, I⟩, hdx, ba, bd, bl⟩ := O
  have HW : ∀ p ∈ [(a, o), (dx, dictObj), (l, PySem.W.listOf vs.toArray n)], s.heap.get? p.1 = some p.2 := by simp [ha, hdx, hl]
  have HF : ∀ p ∈ [(a, o), (dx, dictObj), (l, PySem.W.listOf vs.toArray n)], hb.get? p.1 = none := by simp [ba, bd, bl]
  have KX0 := Y.C.K
  revert KX0
  k_fill
  intro KX0
  refine enterVC (f := 185) (front := [(Str.ofString "self", Value.ref a)]) (nm := Str.ofString "other") (vs := ([] : List Value)) [(a, o), (dx, dictObj), (l, PySem.W.listOf vs.toArray n)] Y.C Y.k HW HF (Nat.lt_trans Y.depth (by unfold recursionLimit; decide)) rfl (by k_is) rfl (Nat.le_of_ble_eq_true rfl) (fun n v => kindsX (by rfl) n) (by decide +kernel) ?_
  intro g L' h₁ tk D cells hg Cg hsz hD hL F N CY hlt hltD
  have KX := Cg.K
  have T := Cg.T
  have hh := Y.hand
  clear KX0
  obtain ⟨oc, rfl, dc⟩ := CellsAre.one CY
  clear CY
  simp only [List.cons_append, List.nil_append] at N
  have k1 : KeptBut [] s.heap h₁ := kept_all HW hg F (fun p hp => (N p (.tail _ (.tail _ hp))).1)
  have dc' : oc.data = .cell none := dc
  simp only [List.forall_mem_cons] at hlt hltD
  obtain ⟨q1, q2, q3, q4, _⟩ := hlt
  obtain ⟨q5, q6, q7, _⟩ := hltD
  replace q1 : @LT.lt Nat _ D L' := q1
  replace q2 : @LT.lt Nat _ a L' := q2
  replace q3 : @LT.lt Nat _ dx L' := q3
  replace q4 : @LT.lt Nat _ l L' := q4
  replace q5 : @LT.lt Nat _ a D := q5
  replace q6 : @LT.lt Nat _ dx D := q6
  replace q7 : @LT.lt Nat _ l D := q7
  k_steps
  rename Fr g L' _ _ => F2
  rename News g L' _ _ => N2
  refine call_diff0 (N2.get (a := a) (by k_mem)) (O.setCls (KX.keeps F2.keep)) O.set hsm hbd ?_
  intro r h3 or k3 nr er hcr hdr hsr Sr
  have n1 := ne_none nr (N2.get (a := a) (by k_mem))
  have n2 := ne_none nr (N2.get (a := dx) (by k_mem))
  have n3 := ne_none nr (N2.get (a := D) (by k_mem))
  have n4 := ne_none nr (N2.get (a := L' + 1) (by k_mem))
  have n5 := ne_none nr (N2.get (a := l) (by k_mem))
  have N3 := news_new F2 N2 k3 nr er
  have F3 := fr_kept0 F2 k3
  clear F2 N2
  k_steps
  unfold Hold
  rename Fr g L' _ _ => F4
  rename News g L' _ _ => N4
  have d1 := ‹_ = Data.cell (some (Value.ref r))›
  refine filt_N (l := l) (vs := vs) (xs := xs) (fun z => decide (z ∈ xs)) hh F4 N4 ⟨_, N4.get (by k_mem), rfl, n, rfl⟩ I (by omega) (by with_unfolding_all rfl) (by decide) (by rfl) (by decide) (by rfl) (by decide) ?_ ?_ ?_
  · k_steps
  · intro C k t s3 m3 E' hns hm hk
    exact test_in Sr (hk _ _ (N4.get (by k_mem))) (by rw [hcr]; exact setCls_set) (by rw [hcr]; exact has_set) (by unfold scanBound; omega) (hk _ _ (N4.get (by k_mem))) d1 (by rfl) (by rfl) (by rfl) (by rfl) hns hm
  · intro D2 h5 tk5 n5' F5 N5 I5 hD0
    rw [filter_self (fun k => Iff.rfl)] at I5
    have k5 : KeptBut [] s.heap h5 := kept_all HW hg F5 (fun p hp => (N5 p (by simp only [List.mem_cons, List.not_mem_nil, or_false] at hp ⊢; simp [hp])).1)
    have d0 : s.heap.get? D2 = none := none_of_g hg (N5 (D2, _) (.head _)).2.2 (by
      simp only [List.forall_mem_cons]
      have m1 := ne_none hD0 (N4.get (a := a) (by k_mem))
      have m2 := ne_none hD0 (N4.get (a := dx) (by k_mem))
      have m5 := ne_none hD0 (N4.get (a := l) (by k_mem))
      exact ⟨Ne.symm m1, Ne.symm m2, Ne.symm m5, fun p hp => by simp at hp⟩)
    clear F4 N4
    k_steps
    refine wpAny_call (from_list_ct (Y.at (A' := _) (d' := 880) k5 (by show A.depth + 1 + 840 ≤ A.depth + 880; omega) (by show A.units + 3 + 840 * 8 ≤ A.units + 880 * 8; omega) rfl) (N5.get (a := D2) (.head _)) I5 O.set.nd (stays_none Y.k d0) (by omega) fun h6 tk6 a6 dx6 k6 m1 m2 O6 => ?_)
    exact h h6 _ a6 dx6 D2 (k5.comp k6) (kept_none k5 m1) (kept_none k5 m2) d0 O6
end Mine
end

section
open PySem PySem.W PyProof.Rows PySem.Builtin.Frozenset PySem.Calls
set_option Elab.async false
set_option maxRecDepth 100000
set_option maxHeartbeats 4000000
namespace Mine

theorem canLay_ints : ∀ xs : List Int, PyData.canLayAll0 (xs.map .int) = true
  | [] => rfl
  | x :: xs => by simp only [List.map_cons, PyData.canLayAll0, PyData.canLay0, canLay_ints xs]; rfl
theorem short16 : ∀ i : Nat, i < 16 → (PyData.shown (.int (i : Int))).length ≤ 13 := by decide +kernel
theorem short_ints : ∀ xs : List Int, Small xs → PyData.intsShortAll 13 (xs.map .int) = true
  | [], _ => rfl
  | x :: xs, h => by
    have hx := h x (.head _)
    have e : x = ((x.toNat : Nat) : Int) := by omega
    have h1 : (PyData.shown (.int x)).length ≤ 13 := by rw [e]; exact short16 _ (by omega)
    simp only [List.map_cons, PyData.intsShortAll, PyData.intsShort, short_ints xs (fun k hk => h k (.tail _ hk)), Bool.and_true, decide_eq_true_eq]
    exact h1
theorem showable_ints : ∀ xs : List Int, Small xs → PyData.showableAll (xs.map .int) = true
  | [], _ => rfl
  | x :: xs, h => by
    have hx := h x (.head _)
    have h1 : ∀ i : Nat, i < 16 → i.log2 < 1920 := by decide +kernel
    simp only [List.map_cons, PyData.showableAll, PyData.showable, showable_ints xs (fun k hk => h k (.tail _ hk)), Bool.and_true, decide_eq_true_eq]
    exact h1 _ (by omega)
theorem noDict_ints : ∀ xs : List Int, PyData.hasDictAll (xs.map .int) = false
  | [] => rfl
  | x :: xs => by simp only [List.map_cons, PyData.hasDictAll, PyData.hasDict, noDict_ints xs]; rfl
theorem depth_ints : ∀ xs : List Int, PyData.depthAll (xs.map .int) ≤ 1
  | [] => by simp [PyData.depthAll]
  | x :: xs => by
    have := depth_ints xs
    simp only [List.map_cons, PyData.depthAll, PyData.depth]; omega
theorem weight_ints : ∀ xs : List Int, Small xs → PyData.weightAll (xs.map .int) ≤ 6 * xs.length
  | [], _ => by simp [PyData.weightAll]
  | x :: xs, h => by
    have hx := h x (.head _)
    have h1 : ∀ i : Nat, i < 16 → i.log2 + 1 ≤ 5 := by decide +kernel
    have h2 := weight_ints xs (fun k hk => h k (.tail _ hk))
    have h3 := h1 x.natAbs (by omega)
    simp only [List.map_cons, PyData.weightAll, PyData.weight, List.length_cons]
    split <;> omega
theorem shown_ints (xs : List Int) (h : Small xs) (hb : xs.length ≤ 16) : (PyData.shown (.list (xs.map .int))).length ≤ 100000 := by
  have h2 := PyData.shown_le 13 (by decide) (.list (xs.map .int)) (PyData.leavesShort_of_canLay0 13 _ (by simp only [PyData.canLay0]; exact canLay_ints xs) (by simp only [PyData.intsShort]; exact short_ints xs h))
  have h3 := weight_ints xs h
  simp only [PyData.weight] at h2
  omega
end Mine
end

section
open PySem PySem.W PyProof.Rows
theorem Mine.rs_RP1 {M : Model} {A : Around} {s : Shared} {v : Value} {Q : Bool → Shared → Prop} {E : Value → Shared → Prop} (h : wpAny M A (truthy v) Q E s) : wpAny M A (truthy v) Q E s := by
  first | (walk1; fail) | exact h
end

section
open PySem PySem.W PyProof.Rows PySem.Builtin.Frozenset PySem.Calls
set_option Elab.async false
set_option maxRecDepth 100000
set_option maxHeartbeats 4000000
namespace Mine

local macro_rules | `(tactic| k_inst) => `(tactic| (refine' OSet.inst ?O ?N ?h1 ?h2; (case N => k_asm); (case O => k_asm); (case h1 => k_mem); (case h2 => k_mem)))
local macro_rules | `(tactic| walk_at "compareOp NotIn int ref") => `(tactic| (k_here; k_dflt (refine' notin_N ?F ?X ?N ?m ?O ?b ?_; (case F => k_asm); (case X => k_asm); (case N => k_asm); (case O => k_asm); (case m => k_mem); (case b => (first | assumption | (unfold scanBound; omega))))))
local macro_rules | `(tactic| walk_at "compareOp In int ref") => `(tactic| (k_here; k_dflt (refine' in_N ?F ?X ?N ?m ?O ?b ?_; (case F => k_asm); (case X => k_asm); (case N => k_asm); (case O => k_asm); (case m => k_mem); (case b => (first | assumption | (unfold scanBound; omega))))))
local macro_rules | `(tactic| walk_at "getAttr ref") => `(tactic| (k_here; (with_reducible show wpAny _ _ (getAttr (Value.ref _) (Str.ofString "_list") _) _ _ _); k_dflt (refine' list_N ?F ?X ?N ?m ?O ?n ?_; (case F => k_asm); (case X => k_asm); (case N => k_asm); (case O => k_asm); (case m => k_mem); (case n => k_mem))))
local macro_rules | `(tactic| walk_at "call builtin:set.add") => `(tactic| (k_here; (with_reducible show wpAny _ _ (call (Value.builtin "set.add") [Value.ref _, Value.int _ _]) _ _ _); k_dflt (refine' add_N ?F ?X ?N ?U ?O ?b ?_; (case F => k_asm); (case X => k_asm); (case N => k_asm); (case O => k_asm); (case U => k_updF); (case b => (first | assumption | (unfold scanBound; omega)))); intro h' tk' o' F' N' O'; (try dsimp only at N')))
local macro_rules | `(tactic| walk_at "getMethod") => `(tactic| (k_here; (with_reducible show wpAny _ _ (getMethod (Value.type "set") _ _) _ _ _); (with_reducible refine' getMethod_setT ?F ?X ?e ?h ?_); k_dflt ((case F => k_asm); (case X => k_asm); (case e => first | with_reducible exact k_set_add | with_reducible exact k_set_remove | with_reducible exact k_set_update | with_reducible exact k_set_init | with_reducible exact k_set_inter | with_reducible exact k_set_diff | with_reducible exact k_set_interu | with_reducible exact k_set_diffu | with_reducible exact k_set_symu); (case h => rfl))))
local macro_rules | `(tactic| walk_at "call builtin:set.remove") => `(tactic| (k_here; (with_reducible show wpAny _ _ (call (Value.builtin "set.remove") [Value.ref _, Value.int _ _]) _ _ _); k_dflt (refine' remove_N ?F ?X ?N ?U ?O ?b ?k ?_; (case F => k_asm); (case X => k_asm); (case N => k_asm); (case O => k_asm); (case U => k_updF); (case b => (first | assumption | (unfold scanBound; omega))); (case k => assumption)); intro h' tk' o' F' N' O'; (try dsimp only at N')))
local macro_rules | `(tactic| walk_at "eval Call Attribute") => `(tactic| (k_here; k_dflt (refine methodCall_star (by rfl) (by rfl) ?_)))
local macro_rules | `(tactic| walk_at "getAttr") => `(tactic| (k_here; (with_reducible show wpAny _ _ (getAttr (Value.type "set") _ _) _ _ _); k_dflt (refine' getAttr_setT ?X ?e ?h ?_; (case X => k_in); (case e => first | with_reducible exact k_set_inter | with_reducible exact k_set_diff | with_reducible exact k_set_interu | with_reducible exact k_set_diffu); (case h => rfl))))
local macro_rules | `(tactic| walk_at "callWith") => `(tactic| (k_here; (with_reducible show wpAny _ _ (callWith _ (Value.builtin _) [] _ []) _ _ _); k_dflt (refine' callWith_starB ?b ?_ ?a ?c; (case a => rfl); (case c => rfl); (case b => exact fun _ => Looks.of_pure rfl))))

section
variable {w : World} {A : Around} {E : Value → Shared → Prop} {s : Shared} {h₀ : Heap} {L a dx l y : Addr} {m : Str → Option Value} {news : List (Addr × Obj)} {o : Obj} {xs ys : List Int}
theorem f_class {w : World} : findObj (hd.heap_39 w.params) 232 (some dictObj) "__class__" = some (.bind (.builtin "getset_descriptor.__get__") (.builtin "object.__class__")) := by rfl
theorem class_attr_N {expr : Bool} {Q : Value → Shared → Prop} (F : Fr h₀ L s.heap m) (X₀ : (hd.heap_39 w.params).In h₀) (N : News h₀ L s.heap news) (h1 : (a, o) ∈ news) (O : OSet w o dx l xs) (h2 : (dx, dictObj) ∈ news)
    (h : Q (.ref 232) { s with toks := s.toks + 1 }) :
    wpAny (model PySem.Challenge.rw_ep5040_01.row.prog w) A (getAttr (.ref a) "__class__" expr) Q E s := by
  have X := X₀.keeps F.keep
  refine getAttr_S X (O.inst N h1 h2) f_class ?_
  exact wpAny_call (class_get (s := { s with toks := s.toks + 1 }) X (O.inst N h1 h2) (by rfl) ⟨rfl, h⟩)
end
open Builtin Builtin.ObjectAttr Builtin.Getset_descriptor in
theorem dga_name (d tp : Value) : descrGetArgs ⟨[d, .ref 232, tp], []⟩ = pure (d, some (.ref 232), given tp) := by kernel_rfl
theorem f_name {w : World} : findCls (hd.heap_39 w.params) (.ref 232) (.type "type") "__name__" = some (.get (.builtin "getset_descriptor.__get__") (.builtin "type.__name__") (.ref 232) (.type "type")) := by rfl
theorem k_nameslot {w : World} : ∃ oc, (hd.heap_39 w.params).lookup 232 = some oc ∧ oc.isFreed = false ∧ oc.slots[2]? = some (some (.str (Str.ofString "OrderedSet") 203)) := ⟨_, rfl, rfl, rfl⟩
open Builtin Builtin.ObjectAttr Builtin.Getset_descriptor in
theorem name_get {w : World} {A : Around} {s : Shared} {R : Result → Shared → Prop} {tp : Value} (X : (hd.heap_39 w.params).In s.heap) (h : R (.ok (.ret (.str (Str.ofString "OrderedSet") 203))) s) :
    codeAny (model PySem.Challenge.rw_ep5040_01.row.prog w) A (.call (.builtin "getset_descriptor.__get__") ⟨[.builtin "type.__name__", .ref 232, tp], []⟩) R s := by
  obtain ⟨hh, g, dr, t, os⟩ := s
  have L0 : Looks (model PySem.Challenge.rw_ep5040_01.row.prog w) hh (typeOf (.ref 232)) (.type "type") := looks_typeIn X (by rfl)
  have L1 : Looks (model PySem.Challenge.rw_ep5040_01.row.prog w) hh (isSubtype (.type "type") (.type "type")) true := Looks.of_pure (by rw [isSubtype_type]; kernel_rfl)
  refine codeAny_call_builtin KF.slot_gs.plain KF.entry_gs (KF.slot_gs.check _ _ _ _ _ _ _ _ ktyn_type (KF.args_gs _ _ _) ?_)
  unfold Builtin.«getset_descriptor.__get__» descrGet
  rw [dga_name]
  refine wpAny_bind (wpAny_pure ?_)
  unfold descrGetter descrCheckInstance descrNameAndClass isInstance
  simp only [ktyn_owner]
  repeat lk
  refine ⟨Code.quiet_builtin _ (by decide +kernel), codeAny_builtin ktyn_entry ?_⟩
  unfold Builtin.«type.__name__» keptObject
  dsimp only
  unfold slotAt
  obtain ⟨oc, ho, hf, hs⟩ := k_nameslot (w := w)
  refine wpAny_bind (wpAny_bind ((Looks.ld (part := some (slotPart 2)) (X _ _ ho)).at (wpAny_pure ?_)))
  rw [hs]
  exact wpAny_pure h

theorem name_attr_N {w : World} {A : Around} {E : Value → Shared → Prop} {s : Shared} {h₀ : Heap} {L : Addr} {m : Str → Option Value} {expr : Bool} {Q : Value → Shared → Prop} (F : Fr h₀ L s.heap m) (X₀ : (hd.heap_39 w.params).In h₀)
    (h : Q (.str (Str.ofString "OrderedSet") 203) { s with toks := s.toks + 1 }) : wpAny (model PySem.Challenge.rw_ep5040_01.row.prog w) A (getAttr (.ref 232) "__name__" expr) Q E s := by
  have X := X₀.keeps F.keep
  have L0 : Looks (model PySem.Challenge.rw_ep5040_01.row.prog w) s.heap (typeOf (.ref 232)) (.type "type") := looks_typeIn X (by rfl)
  have LO : Looks (model PySem.Challenge.rw_ep5040_01.row.prog w) s.heap (opaqueClassAbove (.ref 232)) none := looks_opaque X (by rfl)
  have hg : findIn (hd.heap_39 w.params) (.type "type") "__getattribute__" = some (some (.builtin "type.__getattribute__")) := type_tga
  refine cls_open X LO L0 hg (looks_hook X (r := none) (by rfl)) (by show subIn (hd.heap_39 w.params) _ _ = _; rfl) f_name ?_
  show wpAny _ _ (do ret (← holding [Value.builtin "type.__name__"] (call (.builtin "getset_descriptor.__get__") [.builtin "type.__name__", .ref 232, .type "type"]))) _ _ _
  refine wpAny_bind (wpAny_holding (wpAny_call (name_get (s := { s with toks := s.toks + 1 }) X ?_)))
  exact wpAny_pure (handed_on rfl h)
local macro_rules | `(tactic| walk_at "getAttr ref") => `(tactic| (k_here; (with_reducible show wpAny _ _ (getAttr (Value.ref _) (Str.ofString "__name__") _) _ _ _); k_dflt (refine' name_attr_N ?F ?X ?_; (case F => k_asm); (case X => k_asm))))
local macro_rules | `(tactic| walk_at "getAttr ref") => `(tactic| (k_here; (with_reducible show wpAny _ _ (getAttr (Value.ref _) (Str.ofString "__class__") _) _ _ _); k_dflt (refine' class_attr_N ?F ?X ?N ?m ?O ?n ?_; (case F => k_asm); (case X => k_asm); (case N => k_asm); (case O => k_asm); (case m => k_mem); (case n => k_mem))))
theorem repr_ct {w : World} {s₀ : Shared} {mg mb : Str → Option Value} {hb : Heap} {A : Around} {s : Shared} {R : Result → Shared → Prop} {a dx l : Addr} {xs : List Int} (Y : Ct w s₀ mg mb hb A s 900) (hG : A.guards = some []) (O : OSAt w hb s.heap a dx l xs) (hsm : Small xs) (hbd : xs.length ≤ 16)
    (h : ∀ h' tk' t, KeptBut [] s.heap h' → R (.ok (.ret (.str (Str.ofString "OrderedSet(" ++ (PyData.list (xs.map .int)).shown ++ Str.ofString ")") t))) { s with heap := h', toks := tk' }) :
    codeAny (model PySem.Challenge.rw_ep5040_01.row.prog w) A (.call (.ref 128) ⟨[.ref a], []⟩) R s := by
  obtain ⟨hadx, hal, hdl⟩ := O.ne
  obtain ⟨⟨o, vs, n, ha, hl, O, I⟩, hdx, ba, bd, bl⟩ := O
  have HW : ∀ p ∈ [(a, o), (dx, dictObj), (l, PySem.W.listOf vs.toArray n)], s.heap.get? p.1 = some p.2 := by simp [ha, hdx, hl]
  have HF : ∀ p ∈ [(a, o), (dx, dictObj), (l, PySem.W.listOf vs.toArray n)], hb.get? p.1 = none := by simp [ba, bd, bl]
  have KX0 := Y.C.K
  revert KX0
  k_fill
  intro KX0
  refine enter (f := 128) (binds := [(Str.ofString "self", Value.ref a)]) [(a, o), (dx, dictObj), (l, PySem.W.listOf vs.toArray n)] Y.C Y.k HW HF (Nat.lt_trans Y.depth (by unfold recursionLimit; decide)) rfl (by k_is) (BindsTo.of_eq rfl) (locs rfl) ?_
  intro g L' h₁ hg Cg hsz hL F N
  have KX := Cg.K
  have T := Cg.T
  have hh := Y.hand
  clear KX0
  have k1 : KeptBut [] s.heap h₁ := kept_all HW hg F (fun p hp => (N p hp).1)
  k_steps
  have hsh := shown_ints xs hsm hbd
  refine pyReprObj_of_reads (h₀ := h₁) (.list (N.get (a := l) (by k_mem)) rfl rfl (by simpa using I.reads h₁)) (by simp only [PyData.showable]; exact showable_ints xs hsm) (by intro q; simp [PyData.hasDict, noDict_ints] at q) hG ?_ (fun _ _ e => e) ?_ (by rw [sizeLine_eq]; omega)
  · have hu := Y.units
    have hd1 := depth_ints xs
    show A.units + 3 + (PyData.depthAll (xs.map .int) + 1) < cLine
    have : cLine = 9900 := rfl
    omega
  · intro h2 u tk k2
    have e0 : (Str.empty ++ Str.ofString "OrderedSet" ++ Str.ofString "(") = Str.ofString "OrderedSet(" := by decide +kernel
    k_steps
    dsimp only
    rw [e0]
    exact h _ _ _ (fun b ob hb' e => k2 b ob (k1 b ob (by simp) e))
end Mine
end

section
open PySem PySem.W PyProof.Rows
theorem Mine.rs_NX1 {M : Model} {A : Around} {s : Shared} {v : Value} {Q : Bool → Shared → Prop} {E : Value → Shared → Prop} (h : wpAny M A (truthy v) Q E s) : wpAny M A (truthy v) Q E s := by
  first | (walk1; fail) | exact h
end

section
open PySem PySem.W PyProof.Rows PySem.Builtin.Frozenset PySem.Calls
set_option Elab.async false
set_option maxRecDepth 100000
set_option maxHeartbeats 4000000
namespace Mine

local macro_rules | `(tactic| k_inst) => `(tactic| (refine' OSet.inst ?O ?N ?h1 ?h2; (case N => k_asm); (case O => k_asm); (case h1 => k_mem); (case h2 => k_mem)))
local macro_rules | `(tactic| walk_at "compareOp NotIn int ref") => `(tactic| (k_here; k_dflt (refine' notin_N ?F ?X ?N ?m ?O ?b ?_; (case F => k_asm); (case X => k_asm); (case N => k_asm); (case O => k_asm); (case m => k_mem); (case b => (first | assumption | (unfold scanBound; omega))))))
local macro_rules | `(tactic| walk_at "compareOp In int ref") => `(tactic| (k_here; k_dflt (refine' in_N ?F ?X ?N ?m ?O ?b ?_; (case F => k_asm); (case X => k_asm); (case N => k_asm); (case O => k_asm); (case m => k_mem); (case b => (first | assumption | (unfold scanBound; omega))))))
local macro_rules | `(tactic| walk_at "getAttr ref") => `(tactic| (k_here; (with_reducible show wpAny _ _ (getAttr (Value.ref _) (Str.ofString "_list") _) _ _ _); k_dflt (refine' list_N ?F ?X ?N ?m ?O ?n ?_; (case F => k_asm); (case X => k_asm); (case N => k_asm); (case O => k_asm); (case m => k_mem); (case n => k_mem))))
local macro_rules | `(tactic| walk_at "call builtin:set.add") => `(tactic| (k_here; (with_reducible show wpAny _ _ (call (Value.builtin "set.add") [Value.ref _, Value.int _ _]) _ _ _); k_dflt (refine' add_N ?F ?X ?N ?U ?O ?b ?_; (case F => k_asm); (case X => k_asm); (case N => k_asm); (case O => k_asm); (case U => k_updF); (case b => (first | assumption | (unfold scanBound; omega)))); intro h' tk' o' F' N' O'; (try dsimp only at N')))
local macro_rules | `(tactic| walk_at "getMethod") => `(tactic| (k_here; (with_reducible show wpAny _ _ (getMethod (Value.type "set") _ _) _ _ _); (with_reducible refine' getMethod_setT ?F ?X ?e ?h ?_); k_dflt ((case F => k_asm); (case X => k_asm); (case e => first | with_reducible exact k_set_add | with_reducible exact k_set_remove | with_reducible exact k_set_update | with_reducible exact k_set_init | with_reducible exact k_set_inter | with_reducible exact k_set_diff | with_reducible exact k_set_interu | with_reducible exact k_set_diffu | with_reducible exact k_set_symu); (case h => rfl))))
local macro_rules | `(tactic| walk_at "call builtin:set.remove") => `(tactic| (k_here; (with_reducible show wpAny _ _ (call (Value.builtin "set.remove") [Value.ref _, Value.int _ _]) _ _ _); k_dflt (refine' remove_N ?F ?X ?N ?U ?O ?b ?k ?_; (case F => k_asm); (case X => k_asm); (case N => k_asm); (case O => k_asm); (case U => k_updF); (case b => (first | assumption | (unfold scanBound; omega))); (case k => assumption)); intro h' tk' o' F' N' O'; (try dsimp only at N')))
local macro_rules | `(tactic| walk_at "eval Call Attribute") => `(tactic| (k_here; k_dflt (refine methodCall_star (by rfl) (by rfl) ?_)))
local macro_rules | `(tactic| walk_at "getAttr") => `(tactic| (k_here; (with_reducible show wpAny _ _ (getAttr (Value.type "set") _ _) _ _ _); k_dflt (refine' getAttr_setT ?X ?e ?h ?_; (case X => k_in); (case e => first | with_reducible exact k_set_inter | with_reducible exact k_set_diff | with_reducible exact k_set_interu | with_reducible exact k_set_diffu); (case h => rfl))))
local macro_rules | `(tactic| walk_at "callWith") => `(tactic| (k_here; (with_reducible show wpAny _ _ (callWith _ (Value.builtin _) [] _ []) _ _ _); k_dflt (refine' callWith_starB ?b ?_ ?a ?c; (case a => rfl); (case c => rfl); (case b => exact fun _ => Looks.of_pure rfl))))

local macro_rules | `(tactic| walk_at "eval ListComp") => `(tactic| (k_here; refine hold_in ?_))

theorem next_ct {w : World} {s₀ : Shared} {mg mb : Str → Option Value} {hb : Heap} {A : Around} {s : Shared} {R : Result → Shared → Prop} {p np : Addr} {ws : List Value} {xs : List Int} {x : Int} {tx : Tok} (Y : Ct w s₀ mg mb hb A s 890) (hp : s.heap.get? p = some (PySem.W.listOf ws.toArray np)) (I : IntsAre ws xs) (hbd : xs.length < 50)
    (h : ∀ h' tk' D n vs, KeptBut [] s.heap h' → s.heap.get? D = none → IntsAre vs (nextL xs x) → h'.get? D = some (PySem.W.listOf vs.toArray n) → R (.ok (.ret (.ref D))) { s with heap := h', toks := tk' }) :
    codeAny (model PySem.Challenge.rw_ep5040_01.row.prog w) A (.call (.ref 250) ⟨[.ref p, .int x tx], []⟩) R s := by
  have HW : ∀ p ∈ ([] : List (Addr × Obj)), s.heap.get? p.1 = some p.2 := by simp
  have HF : ∀ p ∈ ([] : List (Addr × Obj)), hb.get? p.1 = none := by simp
  have KX0 := Y.C.K
  revert KX0
  k_fill
  intro KX0
  refine enterC (f := 250) (binds := [(Str.ofString "plain", Value.ref p), (Str.ofString "x", Value.int x tx)]) [] Y.C Y.k HW HF (Nat.lt_trans Y.depth (by unfold recursionLimit; decide)) rfl (by k_is) (BindsTo.of_eq rfl) (kindsX (by rfl)) (by decide +kernel) ?_
  intro g L' h₁ tk cells hg Cg hsz hL F N CY hlt
  have KX := Cg.K
  have T := Cg.T
  have hh := Y.hand
  clear KX0
  obtain ⟨oc1, oc2, oc3, rfl, dc1, dc2, dc3⟩ := CellsAre.three CY
  clear CY
  simp only [List.cons_append, List.nil_append] at N
  have k1 : KeptBut [] s.heap h₁ := kept_all HW hg F (fun p hp => by simp at hp)
  have hpg : g.get? p = some (PySem.W.listOf ws.toArray np) := hg p _ hp (by simp)
  have hpl : g.IsList p ws.toArray := ⟨_, hpg, rfl, _, rfl⟩
  have dc1' : oc1.data = .cell none := dc1
  have dc2' : oc2.data = .cell none := dc2
  have dc3' : oc3.data = .cell none := dc3
  clear dc1 dc2 dc3
  k_steps
  refine wpAny_call (row_ct (Y.at (A' := _) (d' := 900) k1 (by show A.depth + 1 + 890 ≤ A.depth + 900; omega) (by show A.units + 3 + 890 * 8 ≤ A.units + 900 * 8; omega) rfl) fun h2 tk2 Dr nr vr k2 n2 I2 e2 => ?_)
  have N2 := news_new F N k2 n2 e2
  have F2 := fr_kept0 F k2
  have m1 := ne_none n2 (N.get (a := L' + 1) (by k_mem))
  have m2 := ne_none n2 (N.get (a := L' + 1 + 1) (by k_mem))
  have m3 := ne_none n2 (N.get (a := L' + 1 + 1 + 1) (by k_mem))
  clear F N
  k_steps
  rename Fr g L' _ _ => F3
  rename News g L' _ _ => N3
  refine unpackN_ F3 N3 (News.isTup N3 (.head _)) hh (by rfl) (by rfl) ?_
  intro h4 F4 N4
  clear F3 N3
  have b0 : 0 ≤ x.fmod 8 := Int.fmod_nonneg_of_pos _ (by decide)
  have b1 : x.fmod 8 < 8 := Int.fmod_lt_of_pos _ (by decide)
  have hos : (rowL (x.fdiv 80)).length < 10 := by
    unfold rowL
    rw [List.length_map, List.length_range]
    have q1 : (x.fdiv 80).fmod 4 < 4 := Int.fmod_lt_of_pos _ (by decide)
    omega
  unfold nextL at h
  generalize rowL (x.fdiv 80) = os at I2 h hos
  generalize (x.fdiv 8).fmod 10 = v at *
  have hk : x.fmod 8 = 0 ∨ x.fmod 8 = 1 ∨ x.fmod 8 = 2 ∨ x.fmod 8 = 3 ∨ x.fmod 8 = 4 ∨ x.fmod 8 = 5 ∨ x.fmod 8 = 6 ∨ x.fmod 8 = 7 := by omega
  rcases hk with hk | hk | hk | hk | hk | hk | hk | hk
  · simp only [hk] at N4 h ⊢
    k_steps
    · have hv : v ∈ xs := by have q := ‹(xs.any fun x => x == v) = true›; rw [any_mem] at q; simpa using q
      dsimp only
      rename Fr g L' _ _ => Fz
      rename News g L' _ _ => Nz
      refine h _ _ _ _ ws (kept_all HW hg Fz (by simp)) (none_of_g hg (Nz _ (.head _)).2.2 (by simp)) ?_ (by simpa using Nz.get (.head _))
      show IntsAre _ (addL xs v)
      rw [addL_of_mem hv]
      assumption
    · have hv : ¬ v ∈ xs := by have q := ‹(xs.any fun x => x == v) = false›; rw [any_mem] at q; simpa using q
      dsimp only
      rename Fr g L' _ _ => Fz
      rename News g L' _ _ => Nz
      refine h _ _ _ _ (ws ++ [Value.int v _]) (kept_all HW hg Fz (by simp)) (none_of_g hg (Nz _ (.head _)).2.2 (by simp)) ?_ (by simpa using Nz.get (.head _))
      show IntsAre _ (addL xs v)
      rw [addL_of_not hv]
      exact IntsAre.append ‹IntsAre ws xs› (.cons v _ .nil)
  · simp only [hk] at N4 h ⊢
    k_steps
    · have hv : v ∈ xs := by have q := ‹(xs.any fun x => x == v) = true›; rw [any_mem] at q; simpa using q
      dsimp only
      rename Fr g L' _ _ => Fz
      rename News g L' _ _ => Nz
      refine h _ _ _ _ ws (kept_all HW hg Fz (by simp)) (none_of_g hg (Nz _ (.head _)).2.2 (by simp)) ?_ (by simpa using Nz.get (.head _))
      show IntsAre _ (if v ∈ xs then xs else insL xs _ v)
      rw [if_pos hv]
      assumption
    · have hv : ¬ v ∈ xs := by have q := ‹(xs.any fun x => x == v) = false›; rw [any_mem] at q; simpa using q
      have I := ‹IntsAre ws xs›
      have hz := I.length
      have p0 : 0 ≤ (x.fdiv 80).fmod 7 := Int.fmod_nonneg_of_pos _ (by decide)
      have p1 : (x.fdiv 80).fmod 7 < 7 := Int.fmod_lt_of_pos _ (by decide)
      have hf : Builtin.List.listFitsIndex ((x.fdiv 80).fmod 7 - 3) = true := by unfold Builtin.List.listFitsIndex; simp; omega
      rename Fr g L' _ _ => F5
      rename News g L' _ _ => N5
      refine kl_insert F5 N5 hf rfl (by k_upd) (by simp; rw [sizeLine_eq]; omega) ?_
      intro h6 F6 N6
      clear F5 N5
      k_steps
      dsimp only
      rename Fr g L' _ _ => Fz
      rename News g L' _ _ => Nz
      refine h _ _ _ _ (kl_ins ws _ (.int v _)) (kept_all HW hg Fz (by simp)) (none_of_g hg (Nz _ (.head _)).2.2 (by simp)) ?_ (by simpa using Nz.get (.head _))
      show IntsAre _ (if v ∈ xs then xs else insL xs _ v)
      rw [if_neg hv]
      exact ints_ins I _ v _
  · have hz := I.length
    simp only [hk] at N4 h ⊢
    k_steps
    rename_i o2 d2 hx2 o1 d1 tkx Dp cp hx3 lx hpp o0 F5 N5 d0 _ _ _
    unfold Hold
    refine filt_N (l := Dp) (vs := ws) (xs := xs) (fun z => z != v) hh F5 N5 ⟨_, N5.get (by k_mem), rfl, _, rfl⟩ I (by omega) (by with_unfolding_all rfl) (by decide) (by rfl) (by decide) (by rfl) (by decide) ?_ ?_ ?_
    · k_steps
    · intro C kk tt s3 m3 E' hns hm hkp
      exact test_ne (hkp _ _ (N5.get (by k_mem))) d2 (by rfl) (by rfl) (by rfl) (by rfl) hns hm
    · intro D6 h6 tk6 n6 F6 N6 I6 hD6
      have ehD60 := ne_none hD6 (N5.get (a := Dp) (by k_mem))
      have ehD61 := ne_none hD6 (N5.get (a := Dr) (by k_mem))
      have ehD62 := ne_none hD6 (N5.get (a := L' + 1) (by k_mem))
      have ehD63 := ne_none hD6 (N5.get (a := L' + 1 + 1) (by k_mem))
      have ehD64 := ne_none hD6 (N5.get (a := L' + 1 + 1 + 1) (by k_mem))
      clear F5 N5
      k_steps
      dsimp only
      rename Fr g L' _ _ => Fz
      rename News g L' _ _ => Nz
      refine h _ _ _ _ _ (kept_all HW hg Fz (by simp)) (none_of_g hg (Nz _ (.head _)).2.2 (by simp)) ?_ (by simpa using Nz.get (.head _))
      exact I6
  · have hz := I.length
    simp only [hk] at N4 h ⊢
    k_steps
    · have I3 := ‹IntsAre _ (List.take (xs.length - 1) xs)›
      dsimp only
      rename Fr g L' _ _ => Fz
      rename News g L' _ _ => Nz
      refine h _ _ _ _ _ (kept_all HW hg Fz (by simp)) (none_of_g hg (Nz _ (.head _)).2.2 (by simp)) ?_ (by simpa using Nz.get (.head _))
      show IntsAre _ xs.dropLast
      rw [List.dropLast_eq_take]
      exact I3
    · have hv := ‹¬ 0 < xs.length›
      dsimp only
      rename Fr g L' _ _ => Fz
      rename News g L' _ _ => Nz
      refine h _ _ _ _ ws (kept_all HW hg Fz (by simp)) (none_of_g hg (Nz _ (.head _)).2.2 (by simp)) ?_ (by simpa using Nz.get (.head _))
      show IntsAre _ xs.dropLast
      have hnil : xs = [] := List.eq_nil_of_length_eq_zero (by omega)
      rw [show xs.dropLast = xs by rw [hnil]; rfl]
      assumption
  · have hz := I.length
    simp only [hk] at N4 h ⊢
    k_steps
    rename_i o2 d2 hx2 o1 d1 tkx Dp cp hx3 lx hpp o0 F5 N5 d0 _ _ _ _ _
    unfold Hold
    refine filt_N (l := Dr) (vs := vr) (xs := os) (fun z => !decide (z ∈ xs)) hh F5 N5 ⟨_, N5.get (by k_mem), rfl, _, rfl⟩ I2 (by omega) (by with_unfolding_all rfl) (by decide) (by rfl) (by decide) (by rfl) (by decide) ?_ ?_ ?_
    · k_steps
    · intro C kk tt s3 m3 E' hns hm hkp
      exact test_notinl ⟨_, hkp _ _ (N5.get (a := Dp) (by k_mem)), rfl, _, rfl⟩ I (hkp _ _ (N5.get (by k_mem))) d0 (by rfl) (by rfl) (by rfl) (by rfl) hns hm
    · intro D6 h6 tk6 n6 F6 N6 I6 hD6
      have ehD60 := ne_none hD6 (N5.get (a := Dp) (by k_mem))
      have ehD61 := ne_none hD6 (N5.get (a := Dr) (by k_mem))
      have ehD62 := ne_none hD6 (N5.get (a := L' + 1) (by k_mem))
      have ehD63 := ne_none hD6 (N5.get (a := L' + 1 + 1) (by k_mem))
      have ehD64 := ne_none hD6 (N5.get (a := L' + 1 + 1 + 1) (by k_mem))
      clear F5 N5
      k_steps
      have lf1 : ((vr.filter (keepI fun z => !decide (z ∈ xs)))).length ≤ vr.length := List.length_filter_le _ _
      have lf2 : (ws).length ≤ ws.length := by first | exact Nat.le_refl _ | exact List.length_filter_le _ _
      have lf3 := I2.length
      refine PySem.P.add_list (N6.get (a := Dp) (by k_mem)) (N6.get (a := D6) (by k_mem)) ?_ (by simp only [List.size_toArray]; rw [sizeLine_eq]; omega)
      have F8 := F6.push (PySem.W.listOf ((ws).toArray ++ ((vr.filter (keepI fun z => !decide (z ∈ xs)))).toArray) 0)
      have N8 := News.push F6 N6 (PySem.W.listOf ((ws).toArray ++ ((vr.filter (keepI fun z => !decide (z ∈ xs)))).toArray) 0) rfl
      have w0 : @LT.lt Nat _ (Dp) _ := Heap.lt_size (N6.get (a := Dp) (by k_mem))
      have w1 : @LT.lt Nat _ (D6) _ := Heap.lt_size (N6.get (a := D6) (by k_mem))
      have w2 : @LT.lt Nat _ (Dr) _ := Heap.lt_size (N6.get (a := Dr) (by k_mem))
      have w3 : @LT.lt Nat _ (L' + 1) _ := Heap.lt_size (N6.get (a := L' + 1) (by k_mem))
      have w4 : @LT.lt Nat _ (L' + 1 + 1) _ := Heap.lt_size (N6.get (a := L' + 1 + 1) (by k_mem))
      have w5 : @LT.lt Nat _ (L' + 1 + 1 + 1) _ := Heap.lt_size (N6.get (a := L' + 1 + 1 + 1) (by k_mem))
      clear F6 N6
      k_steps
      dsimp only
      rename Fr g L' _ _ => Fz
      rename News g L' _ _ => Nz
      refine h _ _ _ _ (ws ++ (vr.filter (keepI fun z => !decide (z ∈ xs)))) (kept_all HW hg Fz (by simp)) (none_of_g hg (Nz _ (.head _)).2.2 (by simp)) ?_ (by simpa using Nz.get (.head _))
      exact I.append I6
  · have hz := I.length
    simp only [hk] at N4 h ⊢
    k_steps
    rename_i o2 d2 hx2 o1 d1 tkx Dp cp hx3 lx hpp o0 F5 N5 d0 _ _ _ _ _ _
    unfold Hold
    refine filt_N (l := Dp) (vs := ws) (xs := xs) (fun z => decide (z ∈ os)) hh F5 N5 ⟨_, N5.get (by k_mem), rfl, _, rfl⟩ I (by omega) (by with_unfolding_all rfl) (by decide) (by rfl) (by decide) (by rfl) (by decide) ?_ ?_ ?_
    · k_steps
    · intro C kk tt s3 m3 E' hns hm hkp
      exact test_inl ⟨_, hkp _ _ (N5.get (a := Dr) (by k_mem)), rfl, _, rfl⟩ I2 (hkp _ _ (N5.get (by k_mem))) d1 (by rfl) (by rfl) (by rfl) (by rfl) hns hm
    · intro D6 h6 tk6 n6 F6 N6 I6 hD6
      have ehD60 := ne_none hD6 (N5.get (a := Dp) (by k_mem))
      have ehD61 := ne_none hD6 (N5.get (a := Dr) (by k_mem))
      have ehD62 := ne_none hD6 (N5.get (a := L' + 1) (by k_mem))
      have ehD63 := ne_none hD6 (N5.get (a := L' + 1 + 1) (by k_mem))
      have ehD64 := ne_none hD6 (N5.get (a := L' + 1 + 1 + 1) (by k_mem))
      clear F5 N5
      k_steps
      dsimp only
      rename Fr g L' _ _ => Fz
      rename News g L' _ _ => Nz
      refine h _ _ _ _ _ (kept_all HW hg Fz (by simp)) (none_of_g hg (Nz _ (.head _)).2.2 (by simp)) ?_ (by simpa using Nz.get (.head _))
      exact I6
  · have hz := I.length
    simp only [hk] at N4 h ⊢
    k_steps
    rename_i o2 d2 hx2 o1 d1 tkx Dp cp hx3 lx hpp o0 F5 N5 d0 _ _ _ _ _ _ _
    unfold Hold
    refine filt_N (l := Dp) (vs := ws) (xs := xs) (fun z => !decide (z ∈ os)) hh F5 N5 ⟨_, N5.get (by k_mem), rfl, _, rfl⟩ I (by omega) (by with_unfolding_all rfl) (by decide) (by rfl) (by decide) (by rfl) (by decide) ?_ ?_ ?_
    · k_steps
    · intro C kk tt s3 m3 E' hns hm hkp
      exact test_notinl ⟨_, hkp _ _ (N5.get (a := Dr) (by k_mem)), rfl, _, rfl⟩ I2 (hkp _ _ (N5.get (by k_mem))) d1 (by rfl) (by rfl) (by rfl) (by rfl) hns hm
    · intro D6 h6 tk6 n6 F6 N6 I6 hD6
      have ehD60 := ne_none hD6 (N5.get (a := Dp) (by k_mem))
      have ehD61 := ne_none hD6 (N5.get (a := Dr) (by k_mem))
      have ehD62 := ne_none hD6 (N5.get (a := L' + 1) (by k_mem))
      have ehD63 := ne_none hD6 (N5.get (a := L' + 1 + 1) (by k_mem))
      have ehD64 := ne_none hD6 (N5.get (a := L' + 1 + 1 + 1) (by k_mem))
      clear F5 N5
      k_steps
      dsimp only
      rename Fr g L' _ _ => Fz
      rename News g L' _ _ => Nz
      refine h _ _ _ _ _ (kept_all HW hg Fz (by simp)) (none_of_g hg (Nz _ (.head _)).2.2 (by simp)) ?_ (by simpa using Nz.get (.head _))
      exact I6
  · have hz := I.length
    simp only [hk] at N4 h ⊢
    k_steps
    rename_i o2 d2 hx2 o1 d1 tkx Dp cp hx3 lx hpp o0 F5 N5 d0 _ _ _ _ _ _ _ _
    unfold Hold
    refine filt_N (l := Dp) (vs := ws) (xs := xs) (fun z => !decide (z ∈ os)) hh F5 N5 ⟨_, N5.get (by k_mem), rfl, _, rfl⟩ I (by omega) (by with_unfolding_all rfl) (by decide) (by rfl) (by decide) (by rfl) (by decide) ?_ ?_ ?_
    · k_steps
    · intro C kk tt s3 m3 E' hns hm hkp
      exact test_notinl ⟨_, hkp _ _ (N5.get (a := Dr) (by k_mem)), rfl, _, rfl⟩ I2 (hkp _ _ (N5.get (by k_mem))) d1 (by rfl) (by rfl) (by rfl) (by rfl) hns hm
    · intro D6 h6 tk6 n6 F6 N6 I6 hD6
      have eD := ne_none hD6 (N5.get (a := Dr) (by k_mem))
      have eDp := ne_none hD6 (N5.get (a := Dp) (by k_mem))
      have eDc := ne_none hD6 (N5.get (a := L' + 1 + 1 + 1) (by k_mem))
      clear F5 N5
      k_steps
      unfold Hold
      refine filt_N (l := Dr) (vs := vr) (xs := os) (fun z => !decide (z ∈ xs)) hh F6 N6 ⟨_, N6.get (by k_mem), rfl, _, rfl⟩ I2 (by omega) (by with_unfolding_all rfl) (by decide) (by rfl) (by decide) (by rfl) (by decide) ?_ ?_ ?_
      · k_steps
      · intro C kk tt s3 m3 E' hns hm hkp
        exact test_notinl ⟨_, hkp _ _ (N6.get (a := Dp) (by k_mem)), rfl, _, rfl⟩ I (hkp _ _ (N6.get (by k_mem))) d0 (by rfl) (by rfl) (by rfl) (by rfl) hns hm
      · intro D7 h7 tk7 n7 F7 N7 I7 hD7
        have eE := ne_none hD7 (N6.get (a := D6) (by k_mem))
        have eEc := ne_none hD7 (N6.get (a := L' + 1 + 1 + 1) (by k_mem))
        clear F6 N6
        k_steps
        have lf1 : ((vr.filter (keepI fun z => !decide (z ∈ xs)))).length ≤ vr.length := List.length_filter_le _ _
        have lf2 : ((ws.filter (keepI fun z => !decide (z ∈ os)))).length ≤ ws.length := by first | exact Nat.le_refl _ | exact List.length_filter_le _ _
        have lf3 := I2.length
        refine PySem.P.add_list (N7.get (a := D6) (by k_mem)) (N7.get (a := D7) (by k_mem)) ?_ (by simp only [List.size_toArray]; rw [sizeLine_eq]; omega)
        have F8 := F7.push (PySem.W.listOf (((ws.filter (keepI fun z => !decide (z ∈ os)))).toArray ++ ((vr.filter (keepI fun z => !decide (z ∈ xs)))).toArray) 0)
        have N8 := News.push F7 N7 (PySem.W.listOf (((ws.filter (keepI fun z => !decide (z ∈ os)))).toArray ++ ((vr.filter (keepI fun z => !decide (z ∈ xs)))).toArray) 0) rfl
        have w0 : @LT.lt Nat _ (D6) _ := Heap.lt_size (N7.get (a := D6) (by k_mem))
        have w1 : @LT.lt Nat _ (D7) _ := Heap.lt_size (N7.get (a := D7) (by k_mem))
        have w2 : @LT.lt Nat _ (Dr) _ := Heap.lt_size (N7.get (a := Dr) (by k_mem))
        have w3 : @LT.lt Nat _ (L' + 1) _ := Heap.lt_size (N7.get (a := L' + 1) (by k_mem))
        have w4 : @LT.lt Nat _ (L' + 1 + 1) _ := Heap.lt_size (N7.get (a := L' + 1 + 1) (by k_mem))
        have w5 : @LT.lt Nat _ (L' + 1 + 1 + 1) _ := Heap.lt_size (N7.get (a := L' + 1 + 1 + 1) (by k_mem))
        have w6 : @LT.lt Nat _ (Dp) _ := Heap.lt_size (N7.get (a := Dp) (by k_mem))
        clear F7 N7
        k_steps
        dsimp only
        rename Fr g L' _ _ => Fz
        rename News g L' _ _ => Nz
        refine h _ _ _ _ ((ws.filter (keepI fun z => !decide (z ∈ os))) ++ (vr.filter (keepI fun z => !decide (z ∈ xs)))) (kept_all HW hg Fz (by simp)) (none_of_g hg (Nz _ (.head _)).2.2 (by simp)) ?_ (by simpa using Nz.get (.head _))
        exact I6.append I7
end Mine
end

section
open PySem PySem.W PyProof.Rows PySem.Builtin.Frozenset PySem.Calls
set_option Elab.async false
set_option maxRecDepth 100000
set_option maxHeartbeats 4000000
namespace Mine

theorem rowL_nodup (y : Int) : (rowL y).Nodup := by
  unfold rowL
  have f1 : y.fmod 4 < 4 := Int.fmod_lt_of_pos _ (by decide)
  have h4 : (y.fmod 4).toNat ≤ 3 := by omega
  generalize (y.fmod 4).toNat = n at h4
  refine List.nodup_iff_pairwise_ne.mpr ?_
  rw [List.pairwise_map]
  refine List.Pairwise.imp_of_mem ?_ (List.nodup_iff_pairwise_ne.mp List.nodup_range)
  intro i j hi hj hij e
  rw [List.mem_range] at hi hj
  rw [Int.fmod_eq_emod_of_nonneg _ (by decide), Int.fmod_eq_emod_of_nonneg _ (by decide)] at e
  omega
theorem updL_eq {os : List Int} : ∀ {xs : List Int}, os.Nodup → updL xs os = xs ++ os.filter fun k => !decide (k ∈ xs) := by
  induction os with
  | nil => intro xs _; simp [updL]
  | cons o os ih =>
    intro xs hn
    have hn' := (List.nodup_cons.mp hn)
    have e1 : updL xs (o :: os) = updL (addL xs o) os := rfl
    rw [e1, ih hn'.2]
    by_cases h : o ∈ xs
    · rw [addL_of_mem h, List.filter_cons_of_neg (by simp [h])]
    · rw [addL_of_not h, List.filter_cons_of_pos (by simp [h]), List.append_assoc]
      congr 1
      show o :: _ = o :: _
      congr 1
      refine List.filter_congr fun k hk => ?_
      have : k ≠ o := by rintro rfl; exact hn'.1 hk
      simp [this]
theorem rowL_dig (y : Int) : ∀ k ∈ rowL y, 0 ≤ k ∧ k < 10 := by
  intro k hk
  unfold rowL at hk
  obtain ⟨i, _, rfl⟩ := List.mem_map.mp hk
  exact ⟨Int.fmod_nonneg_of_pos _ (by decide), Int.fmod_lt_of_pos _ (by decide)⟩
def Digs (xs : List Int) : Prop := xs.Nodup ∧ ∀ k ∈ xs, 0 ≤ k ∧ k < 10
theorem Digs.small {xs : List Int} (h : Digs xs) : Small xs := fun k hk => ⟨(h.2 k hk).1, by have := (h.2 k hk).2; omega⟩
theorem Digs.length {xs : List Int} (h : Digs xs) : xs.length ≤ 10 := by
  refine nodup_le (zs := xs) (xs := [0, 1, 2, 3, 4, 5, 6, 7, 8, 9]) h.1 (fun k hk => ?_)
  have := h.2 k hk
  simp only [List.mem_cons, List.not_mem_nil, or_false]
  omega
theorem insL_mem {xs : List Int} {p v k : Int} : k ∈ insL xs p v ↔ k = v ∨ k ∈ xs := by
  rw [(insL_perm xs p v).mem_iff]; simp [or_comm]
theorem insL_nodup {xs : List Int} {p v : Int} (hn : xs.Nodup) (hv : v ∉ xs) : (insL xs p v).Nodup := by
  rw [(insL_perm xs p v).nodup_iff]
  refine List.nodup_append.mpr ⟨hn, by simp, ?_⟩
  intro a ha b hb e
  rw [List.mem_singleton] at hb
  subst e; subst hb; exact hv ha
theorem app_nodup {xs ys : List Int} (h1 : xs.Nodup) (h2 : ys.Nodup) (h : ∀ k ∈ ys, k ∉ xs) : (xs ++ ys).Nodup :=
  List.nodup_append.mpr ⟨h1, h2, fun a ha b hb e => h b hb (e ▸ ha)⟩
theorem Digs.next {xs : List Int} (x : Int) (h : Digs xs) : Digs (nextL xs x) := by
  have hr := rowL_nodup (x.fdiv 80)
  have hd := rowL_dig (x.fdiv 80)
  have v0 : 0 ≤ (x.fdiv 8).fmod 10 := Int.fmod_nonneg_of_pos _ (by decide)
  have v1 : (x.fdiv 8).fmod 10 < 10 := Int.fmod_lt_of_pos _ (by decide)
  unfold nextL deedL
  generalize (x.fdiv 8).fmod 10 = v at *
  generalize rowL (x.fdiv 80) = os at *
  obtain ⟨hn, hb⟩ := h
  split
  · by_cases hv : v ∈ xs
    · rw [addL_of_mem hv]; exact ⟨hn, hb⟩
    · rw [addL_of_not hv]
      refine ⟨app_nodup hn (by simp) (by simpa using hv), fun k hk => ?_⟩
      rcases List.mem_append.mp hk with q | q
      · exact hb k q
      · rw [List.mem_singleton.mp q]; exact ⟨v0, v1⟩
  split
  · split
    · exact ⟨hn, hb⟩
    · rename_i hv
      refine ⟨insL_nodup hn hv, fun k hk => ?_⟩
      rcases insL_mem.mp hk with q | q
      · rw [q]; exact ⟨v0, v1⟩
      · exact hb k q
  split
  · exact ⟨hn.sublist List.filter_sublist, fun k hk => hb k ((List.mem_filter.mp hk).1)⟩
  split
  · exact ⟨hn.sublist (List.dropLast_sublist _), fun k hk => hb k (List.dropLast_subset _ hk)⟩
  split
  · refine ⟨app_nodup hn (hr.sublist List.filter_sublist) (fun k hk => by have := (List.mem_filter.mp hk).2; simpa using this), fun k hk => ?_⟩
    rcases List.mem_append.mp hk with q | q
    · exact hb k q
    · exact hd k ((List.mem_filter.mp q).1)
  split
  · exact ⟨hn.sublist List.filter_sublist, fun k hk => hb k ((List.mem_filter.mp hk).1)⟩
  split
  · exact ⟨hn.sublist List.filter_sublist, fun k hk => hb k ((List.mem_filter.mp hk).1)⟩
  · refine ⟨app_nodup (hn.sublist List.filter_sublist) (hr.sublist List.filter_sublist) (fun k hk q => ?_), fun k hk => ?_⟩
    · have h1 := (List.mem_filter.mp hk).2
      have h2 := (List.mem_filter.mp q).1
      simp at h1; exact h1 h2
    · rcases List.mem_append.mp hk with q | q
      · exact hb k ((List.mem_filter.mp q).1)
      · exact hd k ((List.mem_filter.mp q).1)
end Mine
end

section
open PySem PySem.W PyProof.Rows
theorem Mine.rs_DO1 {M : Model} {A : Around} {s : Shared} {v : Value} {Q : Bool → Shared → Prop} {E : Value → Shared → Prop} (h : wpAny M A (truthy v) Q E s) : wpAny M A (truthy v) Q E s := by
  first | (walk1; fail) | exact h
end

section
open PySem PySem.W PyProof.Rows PySem.Builtin.Frozenset PySem.Calls
set_option Elab.async false
set_option maxRecDepth 100000
set_option maxHeartbeats 4000000
namespace Mine

local macro_rules | `(tactic| k_inst) => `(tactic| (refine' OSet.inst ?O ?N ?h1 ?h2; (case N => k_asm); (case O => k_asm); (case h1 => k_mem); (case h2 => k_mem)))
local macro_rules | `(tactic| walk_at "compareOp NotIn int ref") => `(tactic| (k_here; k_dflt (refine' notin_N ?F ?X ?N ?m ?O ?b ?_; (case F => k_asm); (case X => k_asm); (case N => k_asm); (case O => k_asm); (case m => k_mem); (case b => (first | assumption | (unfold scanBound; omega))))))
local macro_rules | `(tactic| walk_at "compareOp In int ref") => `(tactic| (k_here; k_dflt (refine' in_N ?F ?X ?N ?m ?O ?b ?_; (case F => k_asm); (case X => k_asm); (case N => k_asm); (case O => k_asm); (case m => k_mem); (case b => (first | assumption | (unfold scanBound; omega))))))
local macro_rules | `(tactic| walk_at "getAttr ref") => `(tactic| (k_here; (with_reducible show wpAny _ _ (getAttr (Value.ref _) (Str.ofString "_list") _) _ _ _); k_dflt (refine' list_N ?F ?X ?N ?m ?O ?n ?_; (case F => k_asm); (case X => k_asm); (case N => k_asm); (case O => k_asm); (case m => k_mem); (case n => k_mem))))
local macro_rules | `(tactic| walk_at "call builtin:set.add") => `(tactic| (k_here; (with_reducible show wpAny _ _ (call (Value.builtin "set.add") [Value.ref _, Value.int _ _]) _ _ _); k_dflt (refine' add_N ?F ?X ?N ?U ?O ?b ?_; (case F => k_asm); (case X => k_asm); (case N => k_asm); (case O => k_asm); (case U => k_updF); (case b => (first | assumption | (unfold scanBound; omega)))); intro h' tk' o' F' N' O'; (try dsimp only at N')))
local macro_rules | `(tactic| walk_at "getMethod") => `(tactic| (k_here; (with_reducible show wpAny _ _ (getMethod (Value.type "set") _ _) _ _ _); (with_reducible refine' getMethod_setT ?F ?X ?e ?h ?_); k_dflt ((case F => k_asm); (case X => k_asm); (case e => first | with_reducible exact k_set_add | with_reducible exact k_set_remove | with_reducible exact k_set_update | with_reducible exact k_set_init | with_reducible exact k_set_inter | with_reducible exact k_set_diff | with_reducible exact k_set_interu | with_reducible exact k_set_diffu | with_reducible exact k_set_symu); (case h => rfl))))
local macro_rules | `(tactic| walk_at "call builtin:set.remove") => `(tactic| (k_here; (with_reducible show wpAny _ _ (call (Value.builtin "set.remove") [Value.ref _, Value.int _ _]) _ _ _); k_dflt (refine' remove_N ?F ?X ?N ?U ?O ?b ?k ?_; (case F => k_asm); (case X => k_asm); (case N => k_asm); (case O => k_asm); (case U => k_updF); (case b => (first | assumption | (unfold scanBound; omega))); (case k => assumption)); intro h' tk' o' F' N' O'; (try dsimp only at N')))
local macro_rules | `(tactic| walk_at "eval Call Attribute") => `(tactic| (k_here; k_dflt (refine methodCall_star (by rfl) (by rfl) ?_)))
local macro_rules | `(tactic| walk_at "getAttr") => `(tactic| (k_here; (with_reducible show wpAny _ _ (getAttr (Value.type "set") _ _) _ _ _); k_dflt (refine' getAttr_setT ?X ?e ?h ?_; (case X => k_in); (case e => first | with_reducible exact k_set_inter | with_reducible exact k_set_diff | with_reducible exact k_set_interu | with_reducible exact k_set_diffu); (case h => rfl))))
local macro_rules | `(tactic| walk_at "callWith") => `(tactic| (k_here; (with_reducible show wpAny _ _ (callWith _ (Value.builtin _) [] _ []) _ _ _); k_dflt (refine' callWith_starB ?b ?_ ?a ?c; (case a => rfl); (case c => rfl); (case b => exact fun _ => Looks.of_pure rfl))))

local macro_rules | `(tactic| walk_at "getMethod ref") => `(tactic| (k_here; (with_reducible show wpAny _ _ (getMethod (Value.ref _) _ _) _ _ _); k_dflt (refine' meth_N ?F ?X ?N ?m ?O ?n ?f ?t ?_; (case F => k_asm); (case X => k_asm); (case N => k_asm); (case O => k_asm); (case m => k_mem); (case n => k_mem); (case f => rfl); (case t => rfl))))

theorem do_ct {w : World} {s₀ : Shared} {mg mb : Str → Option Value} {hb : Heap} {A : Around} {s : Shared} {R : Result → Shared → Prop} {a dx l p np : Addr} {ws : List Value} {xs : List Int} {x : Int} {tx : Tok} (Y : Ct w s₀ mg mb hb A s 890) (O : OSAt w hb s.heap a dx l xs) (hp : s.heap.get? p = some (PySem.W.listOf ws.toArray np)) (I : IntsAre ws xs) (hsm : Small xs) (hbd : xs.length ≤ 16) (hpl : p ≠ l)
    (h : ∀ h' tk' l', KeptBut [a, l] s.heap h' → (l' = l ∨ s.heap.get? l' = none) → OSAt w hb h' a dx l' (nextL xs x) → R (.ok (.ret (.bool true))) { s with heap := h', toks := tk' }) :
    codeAny (model PySem.Challenge.rw_ep5040_01.row.prog w) A (.call (.ref 257) ⟨[.ref a, .int x tx, .ref p], []⟩) R s := by
  obtain ⟨hadx, hal, hdl⟩ := O.ne
  obtain ⟨⟨o, vs, n, ha, hl, O, I0⟩, hdx, ba, bd, bl⟩ := O
  have HW : ∀ p ∈ [(a, o), (dx, dictObj), (l, PySem.W.listOf vs.toArray n)], s.heap.get? p.1 = some p.2 := by simp [ha, hdx, hl]
  have HF : ∀ p ∈ [(a, o), (dx, dictObj), (l, PySem.W.listOf vs.toArray n)], hb.get? p.1 = none := by simp [ba, bd, bl]
  have KX0 := Y.C.K
  revert KX0
  k_fill
  intro KX0
  refine enter (f := 257) (binds := [(Str.ofString "s", Value.ref a), (Str.ofString "x", Value.int x tx), (Str.ofString "plain", Value.ref p)]) [(a, o), (dx, dictObj), (l, PySem.W.listOf vs.toArray n)] Y.C Y.k HW HF (Nat.lt_trans Y.depth (by unfold recursionLimit; decide)) rfl (by k_is) (BindsTo.of_eq rfl) (locs rfl) ?_
  intro g L' h₁ hg Cg hsz hL F N
  have KX := Cg.K
  have T := Cg.T
  have hh := Y.hand
  clear KX0
  have hps : s.heap.IsList p ws.toArray := ⟨_, hp, rfl, _, rfl⟩
  have k1 : KeptBut [] s.heap h₁ := kept_all HW hg F (fun p hp => (N p hp).1)
  have hpg : g.get? p = some (PySem.W.listOf ws.toArray np) := hg p _ hp (by simp; exact ⟨fun e => set_ne_list ha O.set hps e.symm, fun e => dict_ne_list hdx hps e.symm, hpl⟩)
  have hpgl : g.IsList p ws.toArray := ⟨_, hpg, rfl, _, rfl⟩
  k_steps
  refine wpAny_call (row_ct (Y.at (A' := _) (d' := 900) k1 (by show A.depth + 1 + 890 ≤ A.depth + 900; omega) (by show A.units + 3 + 890 * 8 ≤ A.units + 900 * 8; omega) rfl) fun h2 tk2 Dr nr vr k2 n2 I2 e2 => ?_)
  have N2 := news_new F N k2 n2 e2
  have F2 := fr_kept0 F k2
  have m1 := ne_none n2 (N.get (a := a) (by k_mem))
  have m2 := ne_none n2 (N.get (a := dx) (by k_mem))
  have m3 := ne_none n2 (N.get (a := l) (by k_mem))
  clear F N
  k_steps
  rename Fr g L' _ _ => F3
  rename News g L' _ _ => N3
  refine unpackItemsN_ F3 N3 (News.isTup N3 (.head _)) hh (by rfl) ?_
  intro h4 F4 N4
  clear F3 N3
  have hos : (rowL (x.fdiv 80)).length < 10 := by
    unfold rowL
    rw [List.length_map, List.length_range]
    have q1 : (x.fdiv 80).fmod 4 < 4 := Int.fmod_lt_of_pos _ (by decide)
    omega
  have b0 : 0 ≤ x.fmod 8 := Int.fmod_nonneg_of_pos _ (by decide)
  have b1 : x.fmod 8 < 8 := Int.fmod_lt_of_pos _ (by decide)
  have hond := rowL_nodup (x.fdiv 80)
  unfold nextL at h
  generalize rowL (x.fdiv 80) = os at I2 h hos hond
  generalize (x.fdiv 8).fmod 10 = v at *
  have hk : x.fmod 8 = 0 ∨ x.fmod 8 = 1 ∨ x.fmod 8 = 2 ∨ x.fmod 8 = 3 ∨ x.fmod 8 = 4 ∨ x.fmod 8 = 5 ∨ x.fmod 8 = 6 ∨ x.fmod 8 = 7 := by omega
  rcases hk with hk | hk | hk | hk | hk | hk | hk | hk
  · simp only [hk] at N4 h ⊢
    k_steps
    rename Fr g L' _ _ => F5
    rename News g L' _ _ => N5
    have O5 : OSAt w hb _ a dx l xs := .mk' (N5.get (by k_mem)) (N5.get (by k_mem)) (N5.get (by k_mem)) O I0 ba bd bl
    have k5 := kept_all HW hg F5 (fun p hp => (N5 p (by simp only [List.mem_cons, List.not_mem_nil, or_false] at hp ⊢; simp [hp])).1)
    refine wpAny_call (add_ct (Y.at (A' := _) (d' := 900) k5 (by show A.depth + 1 + 890 ≤ A.depth + 900; omega) (by show A.units + 3 + 890 * 8 ≤ A.units + 900 * 8; omega) rfl) O5 (by omega) fun h6 tk6 k6 O6 => ?_)
    have F6 := fr_kept F5 k6 (by simp; exact ⟨fun e => (N5 (a, o) (by simp)).2.1 e.symm, fun e => (N5 (l, PySem.W.listOf vs.toArray n) (by simp)).2.1 e.symm⟩) (fun b hb' => by
      simp only [List.mem_cons, List.not_mem_nil, or_false] at hb'
      rcases hb' with rfl | rfl
      · exact (N5 (b, o) (by simp)).2.2
      · exact (N5 (b, PySem.W.listOf vs.toArray n) (by simp)).2.2)
    clear F5 N5
    k_steps
    dsimp only
    exact h h6 _ l ((KeptBut.nil k5).comp k6) (.inl rfl) O6
  · simp only [hk] at N4 h ⊢
    k_steps
    rename Fr g L' _ _ => F5
    rename News g L' _ _ => N5
    have O5 : OSAt w hb _ a dx l xs := .mk' (N5.get (by k_mem)) (N5.get (by k_mem)) (N5.get (by k_mem)) O I0 ba bd bl
    have k5 := kept_all HW hg F5 (fun p hp => (N5 p (by simp only [List.mem_cons, List.not_mem_nil, or_false] at hp ⊢; simp [hp])).1)
    refine wpAny_call (insert_ct (Y.at (A' := _) (d' := 900) k5 (by show A.depth + 1 + 890 ≤ A.depth + 900; omega) (by show A.units + 3 + 890 * 8 ≤ A.units + 900 * 8; omega) rfl) O5 (by omega) (by have p0 : 0 ≤ (x.fdiv 80).fmod 7 := Int.fmod_nonneg_of_pos _ (by decide); have p1 : (x.fdiv 80).fmod 7 < 7 := Int.fmod_lt_of_pos _ (by decide); omega) fun h6 tk6 k6 O6 => ?_)
    have F6 := fr_kept F5 k6 (by simp; exact ⟨fun e => (N5 (a, o) (by simp)).2.1 e.symm, fun e => (N5 (l, PySem.W.listOf vs.toArray n) (by simp)).2.1 e.symm⟩) (fun b hb' => by
      simp only [List.mem_cons, List.not_mem_nil, or_false] at hb'
      rcases hb' with rfl | rfl
      · exact (N5 (b, o) (by simp)).2.2
      · exact (N5 (b, PySem.W.listOf vs.toArray n) (by simp)).2.2)
    clear F5 N5
    k_steps
    dsimp only
    exact h h6 _ l ((KeptBut.nil k5).comp k6) (.inl rfl) O6
  · simp only [hk] at N4 h ⊢
    k_steps
    rename Fr g L' _ _ => F5
    rename News g L' _ _ => N5
    have O5 : OSAt w hb _ a dx l xs := .mk' (N5.get (by k_mem)) (N5.get (by k_mem)) (N5.get (by k_mem)) O I0 ba bd bl
    have k5 := kept_all HW hg F5 (fun p hp => (N5 p (by simp only [List.mem_cons, List.not_mem_nil, or_false] at hp ⊢; simp [hp])).1)
    refine wpAny_call (discard_ct (Y.at (A' := _) (d' := 900) k5 (by show A.depth + 1 + 890 ≤ A.depth + 900; omega) (by show A.units + 3 + 890 * 8 ≤ A.units + 900 * 8; omega) rfl) O5 (by omega) fun h6 tk6 k6 O6 => ?_)
    have F6 := fr_kept F5 k6 (by simp; exact ⟨fun e => (N5 (a, o) (by simp)).2.1 e.symm, fun e => (N5 (l, PySem.W.listOf vs.toArray n) (by simp)).2.1 e.symm⟩) (fun b hb' => by
      simp only [List.mem_cons, List.not_mem_nil, or_false] at hb'
      rcases hb' with rfl | rfl
      · exact (N5 (b, o) (by simp)).2.2
      · exact (N5 (b, PySem.W.listOf vs.toArray n) (by simp)).2.2)
    clear F5 N5
    k_steps
    dsimp only
    exact h h6 _ l ((KeptBut.nil k5).comp k6) (.inl rfl) (by show OSAt w hb h6 a dx l (xs.filter fun k => k != v); rw [← List.Nodup.erase_eq_filter O.set.nd]; exact O6)
  · simp only [hk] at N4 h ⊢
    have hz := I.length
    k_steps
    · have hpos := ‹0 < xs.length›
      rename Fr g L' _ _ => F5
      rename News g L' _ _ => N5
      have O5 : OSAt w hb _ a dx l xs := .mk' (N5.get (by k_mem)) (N5.get (by k_mem)) (N5.get (by k_mem)) O I0 ba bd bl
      have k5 := kept_all HW hg F5 (fun p hp => (N5 p (by simp only [List.mem_cons, List.not_mem_nil, or_false] at hp ⊢; simp [hp])).1)
      refine wpAny_call (pop_ct (Y.at (A' := _) (d' := 900) k5 (by show A.depth + 1 + 890 ≤ A.depth + 900; omega) (by show A.units + 3 + 890 * 8 ≤ A.units + 900 * 8; omega) rfl) O5 (by omega) hpos fun h6 tk6 t6 k6 O6 => ?_)
      have F6 := fr_kept F5 k6 (by simp; exact ⟨fun e => (N5 (a, o) (by simp)).2.1 e.symm, fun e => (N5 (l, PySem.W.listOf vs.toArray n) (by simp)).2.1 e.symm⟩) (fun b hb' => by
        simp only [List.mem_cons, List.not_mem_nil, or_false] at hb'
        rcases hb' with rfl | rfl
        · exact (N5 (b, o) (by simp)).2.2
        · exact (N5 (b, PySem.W.listOf vs.toArray n) (by simp)).2.2)
      clear F5 N5
      have N6 : News g L' h6 [] := News.nil
      k_steps
      have el : (xs.getLastD 0 == xs.getD (-1 + (xs.length : Int)).toNat 0) = true := by
        rw [beq_iff_eq, List.getLastD_eq_getLast?, List.getLast?_eq_getElem?, List.getD_eq_getElem?_getD]
        congr 2
        omega
      rw [el]
      exact h h6 _ l ((KeptBut.nil k5).comp k6) (.inl rfl) O6
    · have hpos := ‹¬ 0 < xs.length›
      rename Fr g L' _ _ => F5
      rename News g L' _ _ => N5
      have O5 : OSAt w hb _ a dx l xs := .mk' (N5.get (by k_mem)) (N5.get (by k_mem)) (N5.get (by k_mem)) O I0 ba bd bl
      have k5 := kept_all HW hg F5 (fun p hp => (N5 p (by simp only [List.mem_cons, List.not_mem_nil, or_false] at hp ⊢; simp [hp])).1)
      dsimp only
      refine h _ _ l k5.nil (.inl rfl) ?_
      have hnil : xs = [] := List.eq_nil_of_length_eq_zero (by omega)
      show OSAt w hb _ a dx l xs.dropLast
      rw [show xs.dropLast = xs by rw [hnil]; rfl]
      exact O5
  · simp only [hk] at N4 h ⊢
    k_steps
    rename Fr g L' _ _ => F5
    rename News g L' _ _ => N5
    have O5 : OSAt w hb _ a dx l xs := .mk' (N5.get (by k_mem)) (N5.get (by k_mem)) (N5.get (by k_mem)) O I0 ba bd bl
    have k5 := kept_all HW hg F5 (fun p hp => (N5 p (by simp only [List.mem_cons, List.not_mem_nil, or_false] at hp ⊢; simp [hp])).1)
    refine wpAny_call (update_ct (Y.at (A' := _) (d' := 900) k5 (by show A.depth + 1 + 890 ≤ A.depth + 900; omega) (by show A.units + 3 + 890 * 8 ≤ A.units + 900 * 8; omega) rfl) O5 (⟨_, N5.get (.head _), rfl, _, rfl⟩) (show @Ne Nat _ l by omega) I2 (by omega) fun h6 tk6 k6 O6 => ?_)
    have F6 := fr_kept F5 k6 (by simp; exact ⟨fun e => (N5 (a, o) (by simp)).2.1 e.symm, fun e => (N5 (l, PySem.W.listOf vs.toArray n) (by simp)).2.1 e.symm⟩) (fun b hb' => by
      simp only [List.mem_cons, List.not_mem_nil, or_false] at hb'
      rcases hb' with rfl | rfl
      · exact (N5 (b, o) (by simp)).2.2
      · exact (N5 (b, PySem.W.listOf vs.toArray n) (by simp)).2.2)
    clear F5 N5
    k_steps
    dsimp only
    exact h h6 _ l ((KeptBut.nil k5).comp k6) (.inl rfl) (by show OSAt w hb h6 a dx l (xs ++ os.filter fun k => !decide (k ∈ xs)); rw [← updL_eq hond]; exact O6)
  · simp only [hk] at N4 h ⊢
    k_steps
    rename Fr g L' _ _ => F5
    rename News g L' _ _ => N5
    have O5 : OSAt w hb _ a dx l xs := .mk' (N5.get (by k_mem)) (N5.get (by k_mem)) (N5.get (by k_mem)) O I0 ba bd bl
    have k5 := kept_all HW hg F5 (fun p hp => (N5 p (by simp only [List.mem_cons, List.not_mem_nil, or_false] at hp ⊢; simp [hp])).1)
    refine wpAny_call (inter_update_ct (Y.at (A' := _) (d' := 900) k5 (by show A.depth + 1 + 890 ≤ A.depth + 900; omega) (by show A.units + 3 + 890 * 8 ≤ A.units + 900 * 8; omega) rfl) O5 (⟨_, N5.get (.head _), rfl, _, rfl⟩) (show @Ne Nat _ l by omega) I2 (by omega) fun h6 tk6 l6 k6 n6 O6 => ?_)
    have F6 := fr_kept F5 k6 (by simp; exact ⟨fun e => (N5 (a, o) (by simp)).2.1 e.symm, fun e => (N5 (l, PySem.W.listOf vs.toArray n) (by simp)).2.1 e.symm⟩) (fun b hb' => by
      simp only [List.mem_cons, List.not_mem_nil, or_false] at hb'
      rcases hb' with rfl | rfl
      · exact (N5 (b, o) (by simp)).2.2
      · exact (N5 (b, PySem.W.listOf vs.toArray n) (by simp)).2.2)
    clear F5 N5
    k_steps
    dsimp only
    exact h h6 _ l6 ((KeptBut.nil k5).comp k6) (.inr (kept_none k5 n6)) O6
  · simp only [hk] at N4 h ⊢
    k_steps
    rename Fr g L' _ _ => F5
    rename News g L' _ _ => N5
    have O5 : OSAt w hb _ a dx l xs := .mk' (N5.get (by k_mem)) (N5.get (by k_mem)) (N5.get (by k_mem)) O I0 ba bd bl
    have k5 := kept_all HW hg F5 (fun p hp => (N5 p (by simp only [List.mem_cons, List.not_mem_nil, or_false] at hp ⊢; simp [hp])).1)
    refine wpAny_call (diff_update_ct (Y.at (A' := _) (d' := 900) k5 (by show A.depth + 1 + 890 ≤ A.depth + 900; omega) (by show A.units + 3 + 890 * 8 ≤ A.units + 900 * 8; omega) rfl) O5 (⟨_, N5.get (.head _), rfl, _, rfl⟩) (show @Ne Nat _ l by omega) I2 hsm hbd fun h6 tk6 l6 k6 n6 O6 => ?_)
    have F6 := fr_kept F5 k6 (by simp; exact ⟨fun e => (N5 (a, o) (by simp)).2.1 e.symm, fun e => (N5 (l, PySem.W.listOf vs.toArray n) (by simp)).2.1 e.symm⟩) (fun b hb' => by
      simp only [List.mem_cons, List.not_mem_nil, or_false] at hb'
      rcases hb' with rfl | rfl
      · exact (N5 (b, o) (by simp)).2.2
      · exact (N5 (b, PySem.W.listOf vs.toArray n) (by simp)).2.2)
    clear F5 N5
    k_steps
    dsimp only
    exact h h6 _ l6 ((KeptBut.nil k5).comp k6) (.inr (kept_none k5 n6)) O6
  · simp only [hk] at N4 h ⊢
    k_steps
    rename Fr g L' _ _ => F5
    rename News g L' _ _ => N5
    have O5 : OSAt w hb _ a dx l xs := .mk' (N5.get (by k_mem)) (N5.get (by k_mem)) (N5.get (by k_mem)) O I0 ba bd bl
    have k5 := kept_all HW hg F5 (fun p hp => (N5 p (by simp only [List.mem_cons, List.not_mem_nil, or_false] at hp ⊢; simp [hp])).1)
    refine wpAny_call (sym_update_ct (Y.at (A' := _) (d' := 900) k5 (by show A.depth + 1 + 890 ≤ A.depth + 900; omega) (by show A.units + 3 + 890 * 8 ≤ A.units + 900 * 8; omega) rfl) O5 (N5.get (.head _)) (show @Ne Nat _ l by omega) I2 hond (by omega) fun h6 tk6 l6 k6 n6 O6 => ?_)
    have F6 := fr_kept F5 k6 (by simp; exact ⟨fun e => (N5 (a, o) (by simp)).2.1 e.symm, fun e => (N5 (l, PySem.W.listOf vs.toArray n) (by simp)).2.1 e.symm⟩) (fun b hb' => by
      simp only [List.mem_cons, List.not_mem_nil, or_false] at hb'
      rcases hb' with rfl | rfl
      · exact (N5 (b, o) (by simp)).2.2
      · exact (N5 (b, PySem.W.listOf vs.toArray n) (by simp)).2.2)
    clear F5 N5
    k_steps
    dsimp only
    exact h h6 _ l6 ((KeptBut.nil k5).comp k6) (.inr (kept_none k5 n6)) O6
end Mine
end

section
open PySem PySem.W PyProof.Rows PySem.Builtin.Frozenset PySem.Calls
set_option Elab.async false
set_option maxRecDepth 100000
set_option maxHeartbeats 4000000
namespace Mine

section
variable {prog : Program} {w : World} {A : Around} {E : Value → Shared → Prop} {s : Shared} {a : Addr} {o : Obj} {xs ys : List Int}
theorem typeCall_set_1 (v : Value) : checkTypeCall "set" ⟨[v], []⟩ = pure () := by kernel_rfl
theorem newCall_set_1 (v : Value) : checkBuiltinCall "set.__new__" ⟨[.type "set", v], []⟩ = pure () := by kernel_rfl
theorem code_set_new1 (v : Value) {Q₁ : Value → Shared → Prop}
    (h : ∀ led : Bool, Q₁ (.ref s.heap.objs.size) { s with heap := s.heap.push { cls := .type "set", dict := none, data := .set #[] 0 (.fresh 0 0 led) } }) :
    codeAny (model prog w) A (.call (.builtin "set.__new__") ⟨[.type "set", v], []⟩) (wants Q₁ E) s := by
  refine codeAny_of_tree ?_
  show wpAny _ A.in1 (do checkBuiltinCall "set.__new__" ⟨[.type "set", v], []⟩; again (.builtin "set.__new__" ⟨[.type "set", v], []⟩)) _ _ s
  refine wpAny_bind (wpAny_of_eq (newCall_set_1 v) (wpAny_pure ⟨plainId_quiet F.plain_set_new _, codeAny_builtin F.entry_set_new ?_⟩))
  rw [Around.under_plainId F.plain_set_new _]
  unfold Builtin.«set.__new__» Builtin.Frozenset.newClass
  have hsub := sub_set_self
  obtain ⟨hp, g, d, tk, os⟩ := s
  dsimp only
  wp_walk
  refine wpAny_askSetting (wpAny_pure ?_)
  dsimp only
  simp only [newObj]
  refine wpAny_bind (wpAny_alloc (wpAny_pure ?_))
  exact wpAny_pure (h _)

theorem nc_set {h : Heap} {x : Obj} (ho : h.get? a = some x) (hc : x.cls = .type "set") : Looks (model prog w) h (typeNameOfCut 200 (.ref a)) "set" := by
  have T := looks_typeOf (M := model prog w) ho
  rw [hc] at T
  intro A' Q' E' s' k q
  obtain ⟨hh', g, d, t, os⟩ := s'
  have T' := T.keeps k
  unfold typeNameOfCut shownTypeOf
  dsimp only at T'
  refine wpAny_bind (wpAny_bind (T'.at ?_))
  rw [if_neg (by decide)]
  refine wpAny_pure ?_
  refine wpAny_of_eq (a := "set") (by kernel_rfl) q

theorem check_set_init1 {M : Model} {self v : Value} {Q : Unit → Shared → Prop} (hT : s.TypeIs self "set") (hQ : Q () s) :
    wpAny M A (checkBuiltinCall "set.__init__" ⟨[self, v], []⟩) Q E s := by
  simp only [checkBuiltinCall, kind_set_init, split_set_init, sig_set_init]
  refine wpAny_bind (wpAny_isInstance hT sub_set_self ?_)
  simp only [Bool.not_true, Bool.false_eq_true, if_false]
  unfold Bind.checkArgs
  dsimp only
  refine wpAny_bind (m := Bind.printed "set" true _ _) (PyProof.Rows.printed_name (by decide) ?_)
  refine wpAny_bind (m := Bind.printed "*" false _ _) (PyProof.Rows.printed_star (self := self) rfl hT fun short => ?_)
  have hrn : (Manifest.Receiver.self == Manifest.Receiver.none) = false := by decide
  have hn : (if (Manifest.Receiver.self == Manifest.Receiver.none) = true then [self, v].length else [self, v].length - 1) = 1 := by simp [hrn]
  rw [hn]
  simp only [List.map_nil]
  have hc : Bind.check ⟨.positional, "set", "*", .self, [⟨"iterable", .posOnly, false⟩]⟩ "set" short 1 [] = pure () := by
    kernel_rfl
  rw [hc]
  exact wpAny_pure hQ

theorem setOf_S {l : Addr} {vs : List Value} {Q : Value → Shared → Prop} (hh : A.handled = none) (hl : s.heap.IsList l vs.toArray) (hI : IntsAre vs ys) (hb : ys.length < scanBound)
    (h : ∀ h' tk' r o', KeptBut [] s.heap h' → s.heap.get? r = none → h'.get? r = some o' → o'.cls = .type "set" → SetO prog w o' (updL [] ys) → Q (.ref r) { s with heap := h', toks := tk' }) :
    wpAny (model prog w) A (call (.type "set") [.ref l]) Q E s := by
  obtain ⟨c, tl, hmro⟩ := F.called_set.mro
  have hmade := F.called_set.made
  have hsub := F.called_set.sub
  refine wpAny_call (codeAny_of_tree ?_)
  show wpAny _ _ (callAny (.type "set") _) _ _ _
  refine wpAny_pure ⟨Code.quiet_builtin _ (by decide +kernel), codeAny_builtin F.entry_type_call ?_⟩
  rw [Around.under_plain (weight_type_call_type "set" [.ref l] []) rfl]
  have h1 := F.called_set.notType
  have h2 := F.called_set.canCreate
  have hct := typeCall_set_1 (.ref l)
  repeat (any_goals (first | assumption | wp_step))

  refine codeAny_mono (code_set_new1 (.ref l) (E := E) (Q₁ := fun obj s₁ => ∃ led : Bool, obj = .ref s.heap.objs.size ∧ s₁ = { s with heap := s.heap.push { cls := .type "set", dict := none, data := .set #[] 0 (.fresh 0 0 led) } }) fun led => ⟨led, rfl, rfl⟩) fun r s₁ hr => ?_
  cases r with
  | error e => exact hr
  | ok fl =>
    cases fl with
    | ret obj =>
      obtain ⟨led, rfl, rfl⟩ := hr
      have hS : (s.heap.push { cls := .type "set", dict := none, data := .set #[] 0 (.fresh 0 0 led) }).get? s.heap.objs.size = some { cls := .type "set", dict := none, data := .set #[] 0 (.fresh 0 0 led) } := Heap.get?_push_size _ rfl
      have hT : Shared.TypeIs { s with heap := s.heap.push { cls := .type "set", dict := none, data := .set #[] 0 (.fresh 0 0 led) } } (.ref s.heap.objs.size) "set" := ⟨_, hS, rfl⟩
      have f0 := fresh_at s.heap
      have hli := F.called_set.init.lookup
      have hbi := F.called_set.init.bind (.ref s.heap.objs.size)
      repeat (any_goals (first | assumption | wp_step))

      refine codeAny_mono (codeAny_call_builtin (R := wants (fun r s₂ => r = .none ∧ Q (.ref s.heap.objs.size) s₂) E) F.called_set.init.plain F.entry_set_init (check_set_init1 hT ?_)) fun r₂ s₂ hr₂ => ?_
      · have hnc := nc_set (prog := prog) (w := w) hS rfl
        unfold Builtin.«set.__init__» noKeywords
        simp only [List.isEmpty_nil, Bool.not_true, Bool.false_eq_true, ↓reduceIte]
        refine wpAny_bind (wpAny_pure ?_)
        try dsimp only
        refine wpAny_bind (hnc.here ?_)
        have hcc : checkCount "set" 0 1 [Value.ref l].length = pure () := by kernel_rfl
        simp only [List.append, hcc]
        refine wpAny_bind (wpAny_pure ?_)
        unfold addrOf setUsed
        refine wpAny_bind (wpAny_pure ?_)
        have hf : FreshSet { cls := .type "set", dict := none, data := .set #[] 0 (.fresh 0 0 led) } := ⟨⟨led, rfl⟩⟩
        refine wpAny_bind (wpAny_bind (wpAny_setState_of hS rfl rfl (wpAny_pure ?_)))
        show wpAny _ _ (if (((0 : Nat) + 0) != 0) = true then _ else _) _ _ _
        rw [if_neg (by decide)]
        try dsimp only
        refine wpAny_bind ?_
        refine wpAny_update_list (by first | exact hh | (simpa using hh)) hS (xs := []) hf.set (s := { s with heap := s.heap.push { cls := .type "set", dict := none, data := .set #[] 0 (.fresh 0 0 led) } }) (let ⟨ol, e, r⟩ := hl; ⟨ol, Heap.get?_push_of_some _ e, r⟩) hI (by simpa using hb) fun h' tk' o' hk hg hh' hS' => ?_
        refine wpAny_pure ⟨rfl, h h' tk' _ o' (fun b ob hb' e => hk b ob (by simp; rintro rfl; rw [f0] at e; cases e) (Heap.get?_push_of_some _ e)) f0 hg (hh'.cls) hS'⟩
      · cases r₂ with
        | error e => exact hr₂
        | ok fl₂ =>
          cases fl₂ with
          | ret r =>
            obtain ⟨rfl, hq⟩ := hr₂
            repeat (any_goals (first | assumption | wp_step))
          | _ => exact hr₂.elim
    | _ => exact hr.elim
end
end Mine
end

section
open PySem PySem.W PyProof.Rows PySem.Builtin.Frozenset PySem.Calls
set_option Elab.async false
set_option maxRecDepth 100000
set_option maxHeartbeats 4000000
namespace Mine

theorem readsAll_of_bools {h : Heap} : ∀ bs : List Bool, ReadsAll h (bs.map Value.bool) (bs.map PyData.bool) []
  | [] => .nil
  | b :: bs => by
    have := ReadsAll.cons (Reads.bool (h := h) b) (readsAll_of_bools (h := h) bs)
    simpa using this
theorem canLay_bools : ∀ bs : List Bool, PyData.canLayAll0 (bs.map .bool) = true
  | [] => rfl
  | x :: xs => by simp only [List.map_cons, PyData.canLayAll0, PyData.canLay0, canLay_bools xs]; rfl
theorem depth_bools : ∀ bs : List Bool, PyData.depthAll (bs.map .bool) ≤ 1
  | [] => by simp [PyData.depthAll]
  | x :: xs => by
    have := depth_bools xs
    simp only [List.map_cons, PyData.depthAll, PyData.depth]; omega
theorem shaped_bools (bs : List Bool) : SeqAt.shaped (.list (bs.map PyData.bool)) = true := by
  have h1 := depth_bools bs
  have h2 : PyData.depth (.list (bs.map PyData.bool)) ≤ 64 := by simp only [PyData.depth]; omega
  show (PyData.canLay0 (.list (bs.map PyData.bool)) && decide (PyData.depth (.list (bs.map PyData.bool)) ≤ 64)) = true
  rw [Bool.and_eq_true]
  exact ⟨by simp only [PyData.canLay0]; exact canLay_bools bs, decide_eq_true h2⟩
theorem eqv_bools : ∀ bs : List Bool, PyData.eqvAll (bs.map .bool) (bs.map .bool) = true
  | [] => by simp [PyData.eqvAll]
  | b :: bs => by simp [PyData.eqvAll, PyData.eqv, eqv_bools bs]
theorem ne_bools {prog : Program} {w : World} {A : Around} {E : Value → Shared → Prop} {s : Shared} {a b : Addr} {oa ob : Obj} {ka kb : Nat} {bs : List Bool} {Q : Value → Shared → Prop}
    (ha : s.heap.get? a = some oa) (ca : oa.cls = .type "list") (da : oa.data = .seq (bs.map Value.bool).toArray ka) (hb : s.heap.get? b = some ob) (cb : ob.cls = .type "list") (db : ob.data = .seq (bs.map Value.bool).toArray kb)
    (hu : A.units + 64 < cLine) (h : Q (.bool false) s) : wpAny (model prog w) A (compareOp .NotEq (.ref a) (.ref b)) Q E s :=
  ne_dataH (reads_list_at ha ca da (by simpa using readsAll_of_bools bs)) (reads_list_at hb cb db (by simpa using readsAll_of_bools bs)) (shaped_bools bs) (shaped_bools bs) hu
    (by rw [show PyData.eqv (.list (bs.map PyData.bool)) (.list (bs.map PyData.bool)) = true by simp only [PyData.eqv]; exact eqv_bools bs]; exact h)
end Mine
end

section
open PySem PySem.W PyProof.Rows
theorem Mine.rs_AG1 {M : Model} {A : Around} {s : Shared} {v : Value} {Q : Bool → Shared → Prop} {E : Value → Shared → Prop} (h : wpAny M A (truthy v) Q E s) : wpAny M A (truthy v) Q E s := by
  first | (walk1; fail) | exact h
end

section
open PySem PySem.W PyProof.Rows PySem.Builtin.Frozenset PySem.Calls
set_option Elab.async false
set_option maxRecDepth 100000
set_option maxHeartbeats 4000000
namespace Mine

local macro_rules | `(tactic| k_inst) => `(tactic| (refine' OSet.inst ?O ?N ?h1 ?h2; (case N => k_asm); (case O => k_asm); (case h1 => k_mem); (case h2 => k_mem)))
local macro_rules | `(tactic| walk_at "compareOp NotIn int ref") => `(tactic| (k_here; k_dflt (refine' notin_N ?F ?X ?N ?m ?O ?b ?_; (case F => k_asm); (case X => k_asm); (case N => k_asm); (case O => k_asm); (case m => k_mem); (case b => (first | assumption | (unfold scanBound; omega))))))
local macro_rules | `(tactic| walk_at "compareOp In int ref") => `(tactic| (k_here; k_dflt (refine' in_N ?F ?X ?N ?m ?O ?b ?_; (case F => k_asm); (case X => k_asm); (case N => k_asm); (case O => k_asm); (case m => k_mem); (case b => (first | assumption | (unfold scanBound; omega))))))
local macro_rules | `(tactic| walk_at "getAttr ref") => `(tactic| (k_here; (with_reducible show wpAny _ _ (getAttr (Value.ref _) (Str.ofString "_list") _) _ _ _); k_dflt (refine' list_N ?F ?X ?N ?m ?O ?n ?_; (case F => k_asm); (case X => k_asm); (case N => k_asm); (case O => k_asm); (case m => k_mem); (case n => k_mem))))
local macro_rules | `(tactic| walk_at "call builtin:set.add") => `(tactic| (k_here; (with_reducible show wpAny _ _ (call (Value.builtin "set.add") [Value.ref _, Value.int _ _]) _ _ _); k_dflt (refine' add_N ?F ?X ?N ?U ?O ?b ?_; (case F => k_asm); (case X => k_asm); (case N => k_asm); (case O => k_asm); (case U => k_updF); (case b => (first | assumption | (unfold scanBound; omega)))); intro h' tk' o' F' N' O'; (try dsimp only at N')))
local macro_rules | `(tactic| walk_at "getMethod") => `(tactic| (k_here; (with_reducible show wpAny _ _ (getMethod (Value.type "set") _ _) _ _ _); (with_reducible refine' getMethod_setT ?F ?X ?e ?h ?_); k_dflt ((case F => k_asm); (case X => k_asm); (case e => first | with_reducible exact k_set_add | with_reducible exact k_set_remove | with_reducible exact k_set_update | with_reducible exact k_set_init | with_reducible exact k_set_inter | with_reducible exact k_set_diff | with_reducible exact k_set_interu | with_reducible exact k_set_diffu | with_reducible exact k_set_symu); (case h => rfl))))
local macro_rules | `(tactic| walk_at "call builtin:set.remove") => `(tactic| (k_here; (with_reducible show wpAny _ _ (call (Value.builtin "set.remove") [Value.ref _, Value.int _ _]) _ _ _); k_dflt (refine' remove_N ?F ?X ?N ?U ?O ?b ?k ?_; (case F => k_asm); (case X => k_asm); (case N => k_asm); (case O => k_asm); (case U => k_updF); (case b => (first | assumption | (unfold scanBound; omega))); (case k => assumption)); intro h' tk' o' F' N' O'; (try dsimp only at N')))
local macro_rules | `(tactic| walk_at "eval Call Attribute") => `(tactic| (k_here; k_dflt (refine methodCall_star (by rfl) (by rfl) ?_)))
local macro_rules | `(tactic| walk_at "getAttr") => `(tactic| (k_here; (with_reducible show wpAny _ _ (getAttr (Value.type "set") _ _) _ _ _); k_dflt (refine' getAttr_setT ?X ?e ?h ?_; (case X => k_in); (case e => first | with_reducible exact k_set_inter | with_reducible exact k_set_diff | with_reducible exact k_set_interu | with_reducible exact k_set_diffu); (case h => rfl))))
local macro_rules | `(tactic| walk_at "callWith") => `(tactic| (k_here; (with_reducible show wpAny _ _ (callWith _ (Value.builtin _) [] _ []) _ _ _); k_dflt (refine' callWith_starB ?b ?_ ?a ?c; (case a => rfl); (case c => rfl); (case b => exact fun _ => Looks.of_pure rfl))))

local macro_rules | `(tactic| walk_at "eval ListComp") => `(tactic| (k_here; refine hold_in ?_))

local macro_rules | `(tactic| walk_at "compareOp NotEq ref ref") => `(tactic| (k_here; (with_reducible show wpAny _ _ (compareOp CmpOp.NotEq (Value.ref _) (Value.ref _)) _ _ _); refine hold_in ?_))
local macro_rules | `(tactic| walk_at "compareOp Eq ref ref") => `(tactic| (k_here; (with_reducible show wpAny _ _ (compareOp CmpOp.Eq (Value.ref _) (Value.ref _)) _ _ _); refine hold_in ?_))
local macro_rules | `(tactic| walk_at "call builtin:len") => `(tactic| (k_here; (with_reducible show wpAny _ _ (call (Value.builtin "len") [Value.ref _]) _ _ _); refine hold_in ?_))
local macro_rules | `(tactic| walk_at "call builtin:repr") => `(tactic| (k_here; (with_reducible show wpAny _ _ (call (Value.builtin "repr") [Value.ref _]) _ _ _); refine hold_in ?_))
local macro_rules | `(tactic| walk_at "call type:set cons nil") => `(tactic| (k_here; (with_reducible show wpAny _ _ (call (Value.type "set") [Value.ref _]) _ _ _); refine hold_in ?_))
local macro_rules | `(tactic| walk_at "call type:list") => `(tactic| (k_here; (with_reducible show wpAny _ _ (call (Value.type "list") [Value.ref _]) _ _ _); refine hold_in ?_))

theorem agrees_ct {w : World} {s₀ : Shared} {mg mb : Str → Option Value} {hb : Heap} {A : Around} {s : Shared} {R : Result → Shared → Prop} {a dx l p np : Addr} {ws : List Value} {xs : List Int} (Y : Ct w s₀ mg mb hb A s 850) (hG : A.guards = some []) (O : OSAt w hb s.heap a dx l xs) (hp : s.heap.get? p = some (PySem.W.listOf ws.toArray np)) (I : IntsAre ws xs) (hdg : Digs xs) (hpl : p ≠ l)
    (h : ∀ h' tk', KeptBut [] s.heap h' → R (.ok (.ret (.bool true))) { s with heap := h', toks := tk' }) :
    codeAny (model PySem.Challenge.rw_ep5040_01.row.prog w) A (.call (.ref 262) ⟨[.ref a, .ref p], []⟩) R s := by
  obtain ⟨hadx, hal, hdl⟩ := O.ne
  obtain ⟨⟨o, vs, n, ha, hl, O, I0⟩, hdx, ba, bd, bl⟩ := O
  have HW : ∀ p ∈ [(a, o), (dx, dictObj), (l, PySem.W.listOf vs.toArray n)], s.heap.get? p.1 = some p.2 := by simp [ha, hdx, hl]
  have HF : ∀ p ∈ [(a, o), (dx, dictObj), (l, PySem.W.listOf vs.toArray n)], hb.get? p.1 = none := by simp [ba, bd, bl]
  have KX0 := Y.C.K
  revert KX0
  k_fill
  intro KX0
  refine enterC (f := 262) (binds := [(Str.ofString "s", Value.ref a), (Str.ofString "plain", Value.ref p)]) [(a, o), (dx, dictObj), (l, PySem.W.listOf vs.toArray n)] Y.C Y.k HW HF (Nat.lt_trans Y.depth (by unfold recursionLimit; decide)) rfl (by k_is) (BindsTo.of_eq rfl) (kindsX (by rfl)) (by decide +kernel) ?_
  intro g L' h₁ tk cells hg Cg hsz hL F N CY hlt
  have KX := Cg.K
  have T := Cg.T
  have hh := Y.hand
  clear KX0
  obtain ⟨oc1, oc2, rfl, dc1, dc2⟩ := CellsAre.two CY
  clear CY
  simp only [List.cons_append, List.nil_append] at N
  have hps : s.heap.IsList p ws.toArray := ⟨_, hp, rfl, _, rfl⟩
  have k1 : KeptBut [] s.heap h₁ := kept_all HW hg F (fun p hp => (N p (.tail _ (.tail _ hp))).1)
  have hpg : g.get? p = some (PySem.W.listOf ws.toArray np) := hg p _ hp (by simp; exact ⟨fun e => set_ne_list ha O.set hps e.symm, fun e => dict_ne_list hdx hps e.symm, hpl⟩)
  have hpgl : g.IsList p ws.toArray := ⟨_, hpg, rfl, _, rfl⟩
  have dc1' : oc1.data = .cell (some (.ref p)) := by first | exact dc1 | exact dc2
  have dc2' : oc2.data = .cell (some (.ref a)) := by first | exact dc1 | exact dc2
  clear dc1 dc2
  have O0 : OSAt w hb h₁ a dx l xs := .mk' (N.get (by k_mem)) (N.get (by k_mem)) (N.get (by k_mem)) O I0 ba bd bl
  have hln := hdg.length
  k_steps
  unfold Hold
  refine list_S (Y.at (A' := _) (d' := 870) k1 (by show A.depth + 1 + 850 ≤ A.depth + 870; omega) (by show A.units + 3 + 850 * 8 ≤ A.units + 870 * 8; omega) rfl) O0 (by omega) fun h2 tk2 D2 n2 vs2 k2 f2 I2 e2 => ?_
  have N2 := news_new F N k2 f2 e2
  have F2 := fr_kept0 F k2
  have z1 := ne_none f2 (N.get (a := a) (by k_mem))
  have z2 := ne_none f2 (N.get (a := dx) (by k_mem))
  have z3 := ne_none f2 (N.get (a := l) (by k_mem))
  have z4 := ne_none f2 (N.get (a := L' + 1) (by k_mem))
  have z5 := ne_none f2 (N.get (a := L' + 1 + 1) (by k_mem))
  clear F N
  have hun : A.units + 3 + 64 < cLine := by have := Y.units; have : cLine = 9900 := rfl; omega
  k_steps
  unfold Hold
  refine ne_intsK ⟨_, N2.get (a := D2) (by k_mem), rfl, _, rfl⟩ I2 ⟨_, F2.keep _ _ hpg, rfl, _, rfl⟩ I hun ?_
  rw [decide_eq_true rfl]
  k_steps
  unfold Hold
  refine len_S (N2.get (a := a) (by k_mem)) O.cls (KX.keeps F2.keep) O.set (by unfold scanBound; omega) fun t tk => ?_
  k_steps
  unfold Hold
  have hz := I.length
  refine len_list (l := p) (items := ws.toArray) ⟨_, F2.keep _ _ hpg, rfl, _, rfl⟩ (by simp; omega) ?_
  rw [show ws.toArray.size = xs.length by simpa using hz]
  refine PyProof.Rows.ne_int ?_
  rw [show ((xs.length : Int) != (xs.length : Int)) = false by simp]
  k_steps
  unfold Hold
  refine setOf_S (l := p) hh ⟨_, F2.keep _ _ hpg, rfl, _, rfl⟩ I (by unfold scanBound; omega) ?_
  intro h3 tk3 D3 o3 k3 f3 e3 c3 S3
  have N3 := news_new F2 N2 k3 f3 e3
  have F3 := fr_kept0 F2 k3
  have y1 := ne_none f3 (N2.get (a := a) (by k_mem))
  have y2 := ne_none f3 (N2.get (a := dx) (by k_mem))
  have y3 := ne_none f3 (N2.get (a := l) (by k_mem))
  have y4 := ne_none f3 (N2.get (a := L' + 1) (by k_mem))
  have y5 := ne_none f3 (N2.get (a := L' + 1 + 1) (by k_mem))
  clear F2 N2
  k_steps
  unfold Hold
  refine ne_S (by have := Y.units; have : cLine = 9900 := rfl; show A.units + 3 < cLine; omega) (N3.get (a := a) (by k_mem)) O.cls (KX.keeps F3.keep) O.set (N3.get (a := D3) (by k_mem)) c3 S3 (by unfold scanBound; omega) ?_ ?_
  · rw [dedup_id (xs := []) (ys := xs) (by simpa using hdg.1)]
    exact List.Perm.refl _
  k_steps
  unfold Hold
  refine LCg.ListComp_U (F₀ := F3) (by with_unfolding_all rfl) (by decide) (by rfl) (by decide) (by rfl) ?_
  k_steps
  rename IsRange _ _ _ _ _ _ _ _ => hr
  rename Fr g L' _ _ => F4
  rename News g L' _ _ => N4
  have N4' : News g L' _ [(L' + 1 + 1, oc1), (L' + 1, oc2), (a, o), (dx, dictObj), (l, PySem.W.listOf vs.toArray n)] := fun p hp => N4 p (by simp only [List.mem_cons, List.not_mem_nil, or_false] at hp ⊢; simp [hp])
  refine LCg.CompSrc.range (n := 10) hh F4 N4' hr (by decide) (by rfl) (Nat.le_of_ble_eq_true rfl) (fun gh => rest_ind (n := 10) (fun i ys news => news = [(L' + 1 + 1, oc1), (L' + 1, oc2), (a, o), (dx, dictObj), (l, PySem.W.listOf vs.toArray n)] ∧ ys = (List.range i).map fun (i : Nat) => Value.bool (decide ((i : Int) ∈ xs))) ?_ ?_ 10 0 [] [(L' + 1 + 1, oc1), (L' + 1, oc2), (a, o), (dx, dictObj), (l, PySem.W.listOf vs.toArray n)] rfl ⟨rfl, rfl⟩)
  · rintro i ys news v I1 oI C oC D m₂ h5 tk5 E' hi ⟨rfl, rfl⟩ ⟨t, rfl⟩ hC hx F5 N5 off hne
    clear F4 N4'
    k_steps
    refine LCg.CompEnd.intro F5 N5 _ (fun p hp => hp) off trivial ⟨rfl, ?_⟩
    rw [List.range_succ, List.map_append, Int.zero_add]
    rfl
  · rintro ys news ⟨rfl, rfl⟩
    clear F4 N4'
    k_steps
    rename_i D6 h6 tk6 F6 N6 o6
    unfold Hold
    refine LCg.ListComp_U (F₀ := F6) (by with_unfolding_all rfl) (by decide) (by rfl) (by decide) (by rfl) ?_
    k_steps
    rename IsRange _ _ _ _ _ _ _ _ => hr2
    rename Fr g L' _ _ => F7
    rename News g L' _ _ => N7
    refine LCg.CompSrc.range (n := 10) hh F7 N7 hr2 (by decide) (by rfl) (Nat.le_of_ble_eq_true rfl) (fun gh => rest_ind (n := 10) (fun i ys news => news = [(D6, LCg.lst ((List.range 10).map fun (i : Nat) => Value.bool (decide ((i : Int) ∈ xs)))), (L' + 1 + 1, oc1), (L' + 1, oc2), (a, o), (dx, dictObj), (l, PySem.W.listOf vs.toArray n)] ∧ ys = (List.range i).map fun (i : Nat) => Value.bool (decide ((i : Int) ∈ xs))) ?_ ?_ 10 0 [] _ rfl ⟨rfl, rfl⟩)
    · rintro i ys news v I1 oI C oC D m₂ h5 tk5 E' hi ⟨rfl, rfl⟩ ⟨t, rfl⟩ hC hx F5 N5 off hne
      clear F7 N7
      k_steps
      refine LCg.CompEnd.intro F5 N5 _ (fun p hp => hp) off trivial ⟨rfl, ?_⟩
      rw [List.range_succ, List.map_append, Int.zero_add, any_mem]
      rfl
    · rintro ys news ⟨rfl, rfl⟩
      clear F7 N7
      k_steps
      rename_i D8 h8 tk8 F8 N8 o8
      unfold Hold
      refine ne_bools (bs := (List.range 10).map fun (i : Nat) => decide ((i : Int) ∈ xs)) (N8.get (a := D6) (by k_mem)) rfl (by rw [List.map_map]; rfl) (N8.get (a := D8) (by k_mem)) rfl (by rw [List.map_map]; rfl) hun ?_
      k_steps
      unfold Hold
      refine repr_K (f := 128) (by have := Y.units; have : cLine = 9900 := rfl; show A.units + 3 + 1 < cLine; omega) F8 KX (O.inst N8 (by k_mem) (by k_mem)) (by rfl) (by rfl) ?_
      have O8 : OSAt w hb h8 a dx l xs := .mk' (N8.get (by k_mem)) (N8.get (by k_mem)) (N8.get (by k_mem)) O I0 ba bd bl
      have k8 : KeptBut [] s.heap h8 := kept_all HW hg F8 (fun p hp => (N8 p (by simp only [List.mem_cons, List.not_mem_nil, or_false] at hp ⊢; simp [hp])).1)
      refine wpAny_call (repr_ct (Y.at (A' := _) (d' := 900) k8 (by show A.depth + 1 + 850 ≤ A.depth + 900; omega) (by show A.units + 3 + 1 + 850 * 8 ≤ A.units + 900 * 8; omega) rfl) hG O8 hdg.small (by omega) fun h9 tk9 t9 k9 => ?_)
      have F9 := fr_kept0 F8 k9
      have N9 := news_kept0 N8 k9
      clear F8 N8
      dsimp only [StrBack]
      k_steps
      unfold Hold
      have hsm := hdg.small
      have hsh := shown_ints xs hsm (by omega)
      refine repr_of_reads' (h₀ := h9) (d := .list (xs.map .int)) (.list (F9.keep _ _ hpg) rfl rfl (by simpa using I.reads h9)) (by simp only [PyData.showable]; exact showable_ints xs hsm) (by intro q; simp [PyData.hasDict, noDict_ints] at q) hG ?_ (fun _ _ e => e) ?_ (by rw [sizeLine_eq]; omega)
      · have hu := Y.units
        have hd1 := depth_ints xs
        show A.units + 3 + (PyData.depthAll (xs.map .int) + 1 + 1) < cLine
        have : cLine = 9900 := rfl
        omega
      · intro h10 u tk10 k10
        have F10 := fr_kept0 F9 (fun b ob _ e => k10 b ob e)
        have N10 := news_kept0 N9 (fun b ob _ e => k10 b ob e)
        clear F9 N9
        k_steps
        dsimp only
        rw [beq_self_eq_true]
        exact h h10 _ (kept_all HW hg F10 (fun p hp => (N10 p (by simp only [List.mem_cons, List.not_mem_nil, or_false] at hp ⊢; simp [hp])).1))
end Mine
end

section
open PySem PySem.W PyProof.Rows PySem.Builtin.Frozenset PySem.Calls
set_option Elab.async false
set_option maxRecDepth 100000
set_option maxHeartbeats 4000000
namespace Mine

abbrev Trip := Addr × Addr × Addr
def ads (ts : List Trip) : List Addr := ts.flatMap fun t => [t.1, t.2.1, t.2.2]
theorem ads_snoc (ts : List Trip) (t : Trip) : ads (ts ++ [t]) = ads ts ++ [t.1, t.2.1, t.2.2] := by simp [ads]
theorem mem_ads {ts : List Trip} {b : Addr} (h : b ∈ ads ts) : ∃ t ∈ ts, b = t.1 ∨ b = t.2.1 ∨ b = t.2.2 := by
  unfold ads at h
  obtain ⟨t, ht, hb⟩ := List.mem_flatMap.mp h
  exact ⟨t, ht, by simpa using hb⟩

/-- the sets of a row, each apart from each other, all made behind s -/
structure Fam (w : World) (hb s h : Heap) (xs : List Int) (ts : List Trip) : Prop where
  os : ∀ t ∈ ts, OSAt w hb h t.1 t.2.1 t.2.2 xs
  sep : (ads ts).Nodup
  new : ∀ b ∈ ads ts, s.get? b = none

theorem OSAt.live {w : World} {hb h : Heap} {a dx l : Addr} {xs : List Int} (O : OSAt w hb h a dx l xs) : (∃ o, h.get? a = some o) ∧ (∃ o, h.get? dx = some o) ∧ ∃ o, h.get? l = some o :=
  let ⟨⟨o, vs, n, ha, hl, _, _⟩, hd, _, _, _⟩ := O
  ⟨⟨_, ha⟩, ⟨_, hd⟩, ⟨_, hl⟩⟩

theorem Fam.live {w : World} {hb s h : Heap} {xs : List Int} {ts : List Trip} (Z : Fam w hb s h xs ts) {b : Addr} (hb' : b ∈ ads ts) : ∃ o, h.get? b = some o := by
  obtain ⟨t, ht, e⟩ := mem_ads hb'
  obtain ⟨h1, h2, h3⟩ := (Z.os t ht).live
  rcases e with rfl | rfl | rfl <;> assumption

theorem fam_nil {w : World} {hb s h : Heap} {xs : List Int} : Fam w hb s h xs [] := ⟨by simp, by simp [ads], by simp [ads]⟩

/-- a part of the ledger that bears a family -/
def Kp (g : Heap) (L' : Addr) (w : World) (hb s0 : Heap) (xs : List Int) (T : List (Addr × Obj)) (ts : List Trip) : Prop := (∀ b ∈ ads ts, ∃ o, (b, o) ∈ T) ∧ ∀ h'', News g L' h'' T → Fam w hb s0 h'' xs ts
theorem kp_nil {g : Heap} {L' : Addr} {w : World} {hb s0 : Heap} {xs : List Int} : Kp g L' w hb s0 xs [] [] := ⟨by simp [ads], fun _ _ => fam_nil⟩

theorem fam_add' {w : World} {hb s0 g h h' : Heap} {L' a dx D : Addr} {T : List (Addr × Obj)} {W : List Addr} {xs : List Int} {ts : List Trip} (NT : News g L' h T) (K : Kp g L' w hb s0 xs T ts)
    (k : KeptBut W h h') (hW : ∀ p ∈ T, p.1 ∉ W) (q : ∀ b ∈ [a, dx, D], b ≠ L' ∧ g.get? b = none ∧ s0.get? b = none ∧ b ∉ ads ts) (O : OSAt w hb h' a dx D xs) :
    ∃ T', News g L' h' T' ∧ Kp g L' w hb s0 xs T' (ts ++ [(a, dx, D)]) := by
  have Z := K.2 h NT
  obtain ⟨d1, d2, d3⟩ := O.ne
  obtain ⟨⟨o, vs, n, ha, hl, O', I⟩, hd, b1, b2, b3⟩ := O
  refine ⟨(a, o) :: (dx, dictObj) :: (D, PySem.W.listOf vs.toArray n) :: T, ?_, fun b hb' => ?_, fun h'' N'' => ?_⟩
  · intro p hp
    simp only [List.mem_cons] at hp
    rcases hp with rfl | rfl | rfl | hp
    · exact ⟨ha, (q a (by simp)).1, (q a (by simp)).2.1⟩
    · exact ⟨hd, (q dx (by simp)).1, (q dx (by simp)).2.1⟩
    · exact ⟨hl, (q D (by simp)).1, (q D (by simp)).2.1⟩
    · exact ⟨k _ _ (hW p hp) (NT p hp).1, (NT p hp).2⟩
  · rw [ads_snoc] at hb'
    rcases List.mem_append.mp hb' with r | r
    · obtain ⟨ob, h1⟩ := K.1 b r
      exact ⟨ob, .tail _ (.tail _ (.tail _ h1))⟩
    · simp only [List.mem_cons, List.not_mem_nil, or_false] at r
      rcases r with rfl | rfl | rfl
      · exact ⟨_, .head _⟩
      · exact ⟨_, .tail _ (.head _)⟩
      · exact ⟨_, .tail _ (.tail _ (.head _))⟩
  · have Z'' := K.2 h'' (fun p hp => N'' p (.tail _ (.tail _ (.tail _ hp))))
    refine ⟨fun t ht => ?_, ?_, fun b hb' => ?_⟩
    · rcases List.mem_append.mp ht with q | q
      · exact Z''.os t q
      · rw [List.mem_singleton.mp q]
        exact .mk' (N'' (a, o) (.head _)).1 (N'' (dx, dictObj) (.tail _ (.head _))).1 (N'' (D, _) (.tail _ (.tail _ (.head _)))).1 O' I b1 b2 b3
    · rw [ads_snoc]
      refine List.nodup_append.mpr ⟨Z.sep, ?_, ?_⟩
      · simp only [List.nodup_cons, List.mem_cons, List.not_mem_nil, or_false, not_or, not_false_eq_true, List.nodup_nil, and_true]
        exact ⟨⟨d1, d2⟩, d3⟩
      · intro x hx y hy e
        subst e
        exact (q x hy).2.2.2 hx
    · rw [ads_snoc] at hb'
      rcases List.mem_append.mp hb' with r | r
      · exact Z.new b r
      · exact (q b r).2.2.1

theorem fam_add {w : World} {hb s0 g h h' : Heap} {L' a dx D : Addr} {m : Str → Option Value} {T : List (Addr × Obj)} {W : List Addr} {xs : List Int} {ts : List Trip} (F : Fr g L' h m) (NT : News g L' h T) (K : Kp g L' w hb s0 xs T ts)
    (k : KeptBut W h h') (hW : ∀ p ∈ T, p.1 ∉ W) (hs : ∀ b o, s0.get? b = some o → h.get? b = some o) (n1 : h.get? a = none) (n2 : h.get? dx = none) (n3 : h.get? D = none) (O : OSAt w hb h' a dx D xs) :
    ∃ T', News g L' h' T' ∧ Kp g L' w hb s0 xs T' (ts ++ [(a, dx, D)]) := by
  have q1 : ∀ b, h.get? b = none → b ≠ L' ∧ g.get? b = none := fun b e => ⟨ne_none e (F.ns.choose_spec.choose_spec.choose_spec.1), stays_none (fun b ob e => F.keep b ob e) e⟩
  have s1 : ∀ b, h.get? b = none → s0.get? b = none := fun b e => by
    cases q : s0.get? b with
    | none => rfl
    | some ob => rw [hs _ _ q] at e; cases e
  have off : ∀ b, h.get? b = none → b ∉ ads ts := fun b e hb' => by
    obtain ⟨ob, ho⟩ := (K.2 h NT).live hb'
    rw [ho] at e; cases e
  refine fam_add' NT K k hW (fun b hb' => ?_) O
  simp only [List.mem_cons, List.not_mem_nil, or_false] at hb'
  rcases hb' with rfl | rfl | rfl
  · exact ⟨(q1 _ n1).1, (q1 _ n1).2, s1 _ n1, off _ n1⟩
  · exact ⟨(q1 _ n2).1, (q1 _ n2).2, s1 _ n2, off _ n2⟩
  · exact ⟨(q1 _ n3).1, (q1 _ n3).2, s1 _ n3, off _ n3⟩
theorem allLt_off {g : Heap} {L' : Addr} {w : World} {hb s0 : Heap} {xs : List Int} {T : List (Addr × Obj)} {ts : List Trip} {D : Nat} (K : Kp g L' w hb s0 xs T ts) (l : AllLt D T) : D ∉ ads ts := fun h => by
  obtain ⟨o, h1⟩ := K.1 D h
  have : ∀ {T : List (Addr × Obj)}, AllLt D T → ∀ p ∈ T, @LT.lt Nat _ p.1 D := by
    intro T
    induction T with
    | nil => intro _ p hp; cases hp
    | cons q r ih =>
      intro l p hp
      rcases List.mem_cons.mp hp with rfl | hp
      · exact l.1
      · exact ih l.2 p hp
  exact Nat.lt_irrefl _ (this l _ h1)
theorem fresh3 {w : World} {hb s0 g h : Heap} {L' a dx D : Addr} {m : Str → Option Value} {T : List (Addr × Obj)} {xs : List Int} {ts : List Trip} (F : Fr g L' h m) (NT : News g L' h T) (K : Kp g L' w hb s0 xs T ts)
    (hs : ∀ b o, s0.get? b = some o → h.get? b = some o) (n1 : h.get? a = none) (n2 : h.get? dx = none) (n3 : D ≠ L' ∧ g.get? D = none) (n4 : s0.get? D = none) (n5 : D ∉ ads ts) : ∀ b ∈ [a, dx, D], b ≠ L' ∧ g.get? b = none ∧ s0.get? b = none ∧ b ∉ ads ts := by
  have q1 : ∀ b, h.get? b = none → b ≠ L' ∧ g.get? b = none := fun b e => ⟨ne_none e (F.ns.choose_spec.choose_spec.choose_spec.1), stays_none (fun b ob e => F.keep b ob e) e⟩
  have s1 : ∀ b, h.get? b = none → s0.get? b = none := fun b e => by
    cases q : s0.get? b with
    | none => rfl
    | some ob => rw [hs _ _ q] at e; cases e
  have off : ∀ b, h.get? b = none → b ∉ ads ts := fun b e hb' => by
    obtain ⟨ob, ho⟩ := (K.2 h NT).live hb'
    rw [ho] at e; cases e
  intro b hb'
  simp only [List.mem_cons, List.not_mem_nil, or_false] at hb'
  rcases hb' with rfl | rfl | rfl
  · exact ⟨(q1 _ n1).1, (q1 _ n1).2, s1 _ n1, off _ n1⟩
  · exact ⟨(q1 _ n2).1, (q1 _ n2).2, s1 _ n2, off _ n2⟩
  · exact ⟨n3.1, n3.2, n4, n5⟩
theorem news_born {g h h' : Heap} {L' a dx D : Addr} {m : Str → Option Value} {X : List (Addr × Obj)} {o oD : Obj} (F : Fr g L' h m) (N : News g L' h X) (k : KeptBut [] h h') (n1 : h.get? a = none) (n2 : h.get? dx = none) (n3 : h.get? D = none)
    (ha : h'.get? a = some o) (hd : h'.get? dx = some dictObj) (hl : h'.get? D = some oD) : News g L' h' ((a, o) :: (dx, dictObj) :: (D, oD) :: X) := by
  have q1 : ∀ b, h.get? b = none → b ≠ L' ∧ g.get? b = none := fun b e => ⟨ne_none e (F.ns.choose_spec.choose_spec.choose_spec.1), stays_none (fun b ob e => F.keep b ob e) e⟩
  intro p hp
  simp only [List.mem_cons] at hp
  rcases hp with rfl | rfl | rfl | hp
  · exact ⟨ha, q1 _ n1⟩
  · exact ⟨hd, q1 _ n2⟩
  · exact ⟨hl, q1 _ n3⟩
  · exact ⟨k _ _ (by simp) (N p hp).1, (N p hp).2⟩
theorem news_keptW {g h h' : Heap} {L' : Addr} {X : List (Addr × Obj)} {W : List Addr} (N : News g L' h X) (k : KeptBut W h h') (hW : ∀ p ∈ X, p.1 ∉ W) : News g L' h' X := fun p hp => ⟨k _ _ (hW p hp) (N p hp).1, (N p hp).2⟩
theorem news_join {g h : Heap} {L' : Addr} {X T : List (Addr × Obj)} (N1 : News g L' h X) (N2 : News g L' h T) : News g L' h (X ++ T) := fun p hp => (List.mem_append.mp hp).elim (N1 p) (N2 p)
end Mine
end

section
open PySem PySem.W PyProof.Rows PySem.Builtin.Frozenset PySem.Calls
set_option Elab.async false
set_option maxRecDepth 100000
set_option maxHeartbeats 4000000
namespace Mine

theorem stored_keys {kvs : List (Int × Value)} {k : Int} {y : Value} : (stored kvs k y).map (·.1) = addL (kvs.map (·.1)) k := by
  unfold stored
  have hany : kvs.any (fun kv => decide (kv.1 = k)) = decide (k ∈ kvs.map (·.1)) := by
    by_cases h : k ∈ kvs.map (·.1)
    · rw [decide_eq_true h, List.any_eq_true]
      obtain ⟨kv, h1, h2⟩ := List.mem_map.mp h
      exact ⟨kv, h1, by simpa using h2⟩
    · rw [decide_eq_false h, List.any_eq_false]
      intro kv hkv
      simp only [decide_eq_true_eq]
      intro e
      exact h (List.mem_map.mpr ⟨kv, hkv, e⟩)
  rw [hany]
  by_cases h : k ∈ kvs.map (·.1)
  · rw [if_pos (by simpa using h), addL_of_mem h, List.map_map]
    refine List.map_congr_left fun kv _ => ?_
    show (if kv.1 = k then (kv.1, y) else kv).1 = kv.1
    split <;> rfl
  · rw [if_neg (by simpa using h), addL_of_not h, List.map_append]
    rfl
theorem updL_snoc {xs ys : List Int} {k : Int} : updL xs (ys ++ [k]) = addL (updL xs ys) k := by
  unfold updL; simp
theorem storedAll_keys {l : List Value} {kvs : List (Int × Value)} (h : StoredAll (fun v k => ∃ t, v = .int k t) (fun _ _ => True) l kvs) : ∀ xs, IntsAre l xs → kvs.map (·.1) = updL [] xs := by
  induction h with
  | nil => intro xs I; cases I; rfl
  | @snoc l kvs v k y _ hk _ ih =>
    intro xs I
    obtain ⟨t, rfl⟩ := hk
    have hl := I.length
    have hx : xs = xs.take l.length ++ xs.drop l.length := (List.take_append_drop _ _).symm
    have I1 : IntsAre l (xs.take l.length) := by
      have := I.take l.length
      simpa using this
    have I2 : IntsAre [Value.int k t] (xs.drop l.length) := by
      have := I.drop l.length
      simpa using this
    have e2 : xs.drop l.length = [k] := by
      generalize xs.drop l.length = zs at I2
      cases I2 with
      | cons n t' r => cases r; rfl
    rw [stored_keys, ih _ I1, ← updL_snoc, ← e2, List.take_append_drop]
section
variable {w : World} {A : Around} {E : Value → Shared → Prop} {s : Shared} {env : Env}
theorem dictcomp_N {prog : Program} {iter vx : Expr} {x : Str} {px pe : Pos} {scope : Scope} {cl : List (Str × Addr)} {pos : Pos} {Q : Value → Shared → Prop} {l : Addr} {vs : List Value} {xs : List Int}
    (hh : A.handled = none) (hl : s.heap.IsList l vs.toArray) (I : IntsAre vs xs) (hb : xs.length < 200) (hnd : xs.Nodup)
    (hclos : closureFor scope env = pure cl) (hcell : ∀ y ∈ scope.names, y.2 ≠ .cell) (hkind : scope.kind = .function)
    (hnames : ∀ y ∈ scope.names, y.2 = .local → scope.names.lookup y.1 = some .local) (hx : scope.names.lookup x = some .local) (hdx : (x == ("__debug__" : Str)) = false)
    (hiter : wpAny (model prog w) A (eval iter env) (fun xv s₁ => xv = .ref l ∧ ∃ tk, s₁ = { s with toks := tk }) E s)
    (hval : ∀ C s₃ E', wpAny (model prog w) A (eval vx (compEnvC scope cl C env)) (fun y s₄ => Keeps s₃ s₄) E' s₃)
    (h : ∀ D h' tk kvs, KeptBut [] s.heap h' → s.heap.get? D = none → h'.DictOf (intKind prog w) D kvs → kvs.map (·.1) = xs → Q (.ref D) { s with heap := h', toks := tk })
    (hs : ∀ x, foldedSetIterable iter env x = pure x := by intro _; rfl) :
    wpAny (model prog w) A (eval (.DictComp (.Name x pe) vx [⟨.Name x px, iter, [], 0⟩] scope pos) env) Q E s := by
  have hlen : vs.toArray.size = xs.length := by simp [I.length]
  refine wpAny_DictComp_free (intKind prog w) (fun _ => true) (fun v k => ∃ t, v = .int k t) (fun _ _ => True) hclos hcell hkind hnames hx (wpAny_mono hiter (fun xv s₁ h₁ => ?_) fun _ _ e => e) hs
  obtain ⟨rfl, tk₁, rfl⟩ := h₁
  refine wpAny_pyIter_list (s := { s with toks := tk₁ }) hl ?_
  have hit := iter_at (s := { s with toks := tk₁ }) hl
  have hne : l ≠ s.heap.objs.size := by obtain ⟨o, ho, _⟩ := hl; exact Nat.ne_of_lt (Heap.lt_size ho)
  have W := Walks.list (prog := prog) (w := w) hh s.heap.objs.size l hne vs.toArray
  have up : ∀ b o, s.heap.get? b = some o → (s.heap.push { cls := .type "list_iterator", data := .fields #[.ref l, .int 0 0] }).get? b = some o := fun b o e => Heap.get?_push_of_some _ e
  have nI : ∀ b o, s.heap.get? b = some o → b ∉ [s.heap.objs.size] := fun b o e q => by rw [List.mem_singleton.mp q] at e; exact absurd (Heap.lt_size e) (Nat.lt_irrefl _)
  refine ⟨_, _, _, _, _, _, rfl, W, ?_, hit, ?_, ⟨?_, ?_, ?_⟩, ?_⟩
  · rw [hlen, sizeLine_eq]; omega
  · intro b hb
    show b < (s.heap.push _).objs.size
    rw [Heap.size_push]
    rcases List.mem_cons.mp hb with rfl | q
    · exact Nat.lt_succ_self _
    · rw [List.mem_singleton.mp q]; obtain ⟨o, ho, _⟩ := hl; exact Nat.lt_succ_of_lt (Heap.lt_size ho)
  · intro C i v s₃ m₃ E' hPv hns hm hk
    exact wpAny_pure ⟨rfl, s₃.heap, s₃.toks, rfl, fun _ _ e => e⟩
  · intro C i v s₃ m₃ E' hPv hpv hns hm hk
    obtain ⟨k, t, rfl, hk'⟩ := IntsAre.at I i v (by simpa using hPv)
    refine wpAny_Name (wpAny_loadName_local (by show (relabel scope env).kind = _; exact hkind) (lookup_relabel_local hx) hns hm ?_) hdx
    exact ⟨⟨k, by show (k == k) = true; simp, t, rfl⟩, s₃.heap, s₃.toks, rfl, fun _ _ e => e⟩
  · intro C i v s₃ m₃ E' hPv hpv hns hm hk
    exact wpAny_mono (hval C s₃ E') (fun y s₄ k => ⟨trivial, k⟩) fun _ _ e => e
  · intro D h' tk kvs us hD hDo hul hP hF hk
    have e1 : us = vs := list_of_at (by rw [hul]; simp) (fun j v e => by simpa using hP j v e)
    subst e1
    have all : ∀ b o, s.heap.get? b = some o → h'.get? b = some o := fun b o e => hk b o (nI b o e) (up b o e)
    have hD0 : s.heap.get? D = none := by
      cases e : s.heap.get? D with
      | none => rfl
      | some ob => have := up D ob e; have hD2 : (s.heap.push { cls := .type "list_iterator", data := .fields #[.ref l, .int 0 0] }).get? D = none := hD; rw [hD2] at this; cases this
    refine h D h' tk kvs (fun b o _ e => all b o e) hD0 hDo ?_
    rw [List.filter_eq_self.mpr (fun _ _ => rfl)] at hF
    have := storedAll_keys hF xs I
    rw [this]
    simpa using dedup_id (xs := []) (ys := xs) (by simpa using hnd)
end
end Mine
end

section
open PySem PySem.W PyProof.Rows PySem.Builtin.Frozenset PySem.Calls
set_option Elab.async false
set_option maxRecDepth 100000
set_option maxHeartbeats 4000000
namespace Mine

theorem addop_N {w : World} {A : Around} {E : Value → Shared → Prop} {s : Shared} {h₀ : Heap} {L x y : Addr} {m : Str → Option Value} {ox oy : Obj} {od : Option Obj} {Q : Value → Shared → Prop} (F : Fr h₀ L s.heap m) (X₀ : (hd.heap_39 w.params).In h₀) (I : InstAt s.heap x ox 232 od) (hy : s.heap.get? y = some oy) (hc : oy.cls = .type "list")
    (h : wpAny (model PySem.Challenge.rw_ep5040_01.row.prog w) A (call (.ref 121) [.ref x, .ref y]) (PySem.W.CmpBack Q) E s) : wpAny (model PySem.Challenge.rw_ep5040_01.row.prog w) A (binaryOp .Add (.ref x) (.ref y)) Q E s := by
  have X := X₀.keeps F.keep
  obtain ⟨cd, rest, hcd, hm⟩ := ksp_first (K := (hd.heap_39 w.params)) (C := 232) (by rfl)
  have hs : findIn (hd.heap_39 w.params) (.ref 232) (PySem.dunder "add") = some (some (.ref 121)) := by rfl
  have hf : isFn (hd.heap_39 w.params) (.ref 121) = true := by rfl
  have h1 : findIn (hd.heap_39 w.params) (.type "list") (PySem.dunder "add") = some (some (.builtin "list.__add__")) := by rfl
  have h2 : findIn (hd.heap_39 w.params) (.type "list") (dunderR "add") = some none := by rfl
  have one := ksp_try X I hs hf h
  obtain ⟨hh, g, d, tt, os⟩ := s
  have L1 : Looks (model PySem.Challenge.rw_ep5040_01.row.prog w) hh (typeOf (.ref x)) (.ref 232) := I.type
  have L2 : Looks (model PySem.Challenge.rw_ep5040_01.row.prog w) hh (typeOf (.ref y)) (.type "list") := hc ▸ looks_typeOf hy
  have L3 : Looks (model PySem.Challenge.rw_ep5040_01.row.prog w) hh (fillsNumberSlot (.ref 232) "add") true := fills_K X hcd hm hs
  have L4 : Looks (model PySem.Challenge.rw_ep5040_01.row.prog w) hh (fillsNumberSlot (.type "list") "add") false := by
    with_reducible have := ksp_fillsT (M := (model PySem.Challenge.rw_ep5040_01.row.prog w)) X h1 h2
    have e : (((some (Value.builtin "list.__add__")).isSome && !isSeqSlot (some (Value.builtin "list.__add__"))) || ((none : Option Value).isSome && !isSeqSlot none)) = false := by decide +kernel
    rw [e] at this
    exact this
  have hne : (Value.ref 232 == Value.type "list") = false := by decide
  have hi : Operator.info .Add = ("+", "add") := rfl
  simp only [binaryOp, hi]
  with_reducible refine wpAny_holding ?_
  with_reducible refine wpAny_bind ?_
  unfold binaryOp1
  with_reducible refine wpAny_bind ?_
  with_reducible refine L1.at ?_
  with_reducible refine wpAny_bind ?_
  with_reducible refine L2.at ?_
  with_reducible refine wpAny_bind ?_
  with_reducible refine L3.at ?_
  simp only [hne, Bool.false_eq_true, if_false]
  ksp_lk
  refine wpAny_mono one (fun r s' hr' => ?_) fun _ _ e => e
  obtain ⟨v, rfl, hq⟩ := hr'
  ksp_lk
  exact hq
end Mine
end

section
open PySem PySem.W PyProof.Rows PySem.Builtin.Frozenset PySem.Calls
set_option Elab.async false
set_option maxRecDepth 100000
set_option maxHeartbeats 4000000
namespace Mine

theorem sys_in {lo : List Str} {mean : ExcName → Option Value} {mg mb : Str → Option Value} {h : Heap} (T : Top hd.view_39 lo mean mg mb h) : ∃ o, h.get? sysModules = some o := by
  obtain ⟨mm, hm, _⟩ := (T.seer (by rfl)).mods
  obtain ⟨o, es, ep, e, r⟩ := hm
  exact ⟨o, e⟩
theorem not_sys' {lo : List Str} {mean : ExcName → Option Value} {mg mb : Str → Option Value} {h h' : Heap} {D : Addr} (T : Top hd.view_39 lo mean mg mb h) (k : h.StaysIn h') (hD : h'.get? D = none) : (D == sysModules) = false := by
  obtain ⟨o, e⟩ := sys_in T
  exact beq_eq_false_iff_ne.mpr (by rintro rfl; rw [k _ _ e] at hD; cases hD)
theorem updL_in {xs : List Int} : ∀ {ys : List Int}, (∀ k ∈ ys, k ∈ xs) → updL xs ys = xs
  | [], _ => rfl
  | y :: ys, h => by
    have e : updL xs (y :: ys) = updL (addL xs y) ys := rfl
    rw [e, addL_of_mem (h y (.head _))]
    exact updL_in fun k hk => h k (.tail _ hk)
theorem twice {xs : List Int} (hn : xs.Nodup) : updL [] (xs ++ xs) = xs := by
  have e : updL [] (xs ++ xs) = updL (updL [] xs) xs := by unfold updL; rw [List.foldl_append]
  have e2 : updL [] xs = xs := by simpa using dedup_id (xs := []) (ys := xs) (by simpa using hn)
  rw [e, e2]
  exact updL_in fun _ h => h
theorem os_of_tup' {w : World} {s₀ : Shared} {mg mb : Str → Option Value} {hb : Heap} {A : Around} {s : Shared} {R : Result → Shared → Prop} {v : Addr} {n : Nat} {vs : List Value} {ys zs : List Int} (e : updL [] ys = zs) (Y : Ct w s₀ mg mb hb A s 840) (hv : s.heap.get? v = some ⟨.type "tuple", none, .seq vs.toArray n, #[]⟩) (I : IntsAre vs ys) (hbd : ys.length < 100) (h : Born w hb [] s R zs) :
    codeAny (model PySem.Challenge.rw_ep5040_01.row.prog w) A (.call (.ref 232) ⟨[.ref v], []⟩) R s := os_of_tup Y hv I hbd (e ▸ h)
theorem addop_ct' {w : World} {s₀ : Shared} {mg mb : Str → Option Value} {hb : Heap} {A : Around} {s : Shared} {R : Result → Shared → Prop} {a dx l y : Addr} {xs : List Int} {n : Nat} (Y : Ct w s₀ mg mb hb A s 820) (O : OSAt w hb s.heap a dx l xs) (hy : s.heap.get? y = some (PySem.W.listOf #[] n)) (hbd : xs.length < 100)
    (h : Born w hb [] s R xs) :
    codeAny (model PySem.Challenge.rw_ep5040_01.row.prog w) A (.call (.ref 121) ⟨[.ref a, .ref y], []⟩) R s := addop_ct (ws := []) (ys := []) Y O ⟨_, hy, rfl, n, rfl⟩ .nil (by simpa using hbd) h
end Mine
end

section
open PySem PySem.W PyProof.Rows
theorem Mine.rs_BR1 {M : Model} {A : Around} {s : Shared} {v : Value} {Q : Bool → Shared → Prop} {E : Value → Shared → Prop} (h : wpAny M A (truthy v) Q E s) : wpAny M A (truthy v) Q E s := by
  first | (walk1; fail) | exact h
end

section
open PySem PySem.W PyProof.Rows PySem.Builtin.Frozenset PySem.Calls
set_option Elab.async false
set_option maxRecDepth 100000
set_option maxHeartbeats 4000000
namespace Mine

local macro_rules | `(tactic| k_inst) => `(tactic| (refine' OSet.inst ?O ?N ?h1 ?h2; (case N => k_asm); (case O => k_asm); (case h1 => k_mem); (case h2 => k_mem)))
local macro_rules | `(tactic| walk_at "compareOp NotIn int ref") => `(tactic| (k_here; k_dflt (refine' notin_N ?F ?X ?N ?m ?O ?b ?_; (case F => k_asm); (case X => k_asm); (case N => k_asm); (case O => k_asm); (case m => k_mem); (case b => (first | assumption | (unfold scanBound; omega))))))
local macro_rules | `(tactic| walk_at "compareOp In int ref") => `(tactic| (k_here; k_dflt (refine' in_N ?F ?X ?N ?m ?O ?b ?_; (case F => k_asm); (case X => k_asm); (case N => k_asm); (case O => k_asm); (case m => k_mem); (case b => (first | assumption | (unfold scanBound; omega))))))
local macro_rules | `(tactic| walk_at "getAttr ref") => `(tactic| (k_here; (with_reducible show wpAny _ _ (getAttr (Value.ref _) (Str.ofString "_list") _) _ _ _); k_dflt (refine' list_N ?F ?X ?N ?m ?O ?n ?_; (case F => k_asm); (case X => k_asm); (case N => k_asm); (case O => k_asm); (case m => k_mem); (case n => k_mem))))
local macro_rules | `(tactic| walk_at "call builtin:set.add") => `(tactic| (k_here; (with_reducible show wpAny _ _ (call (Value.builtin "set.add") [Value.ref _, Value.int _ _]) _ _ _); k_dflt (refine' add_N ?F ?X ?N ?U ?O ?b ?_; (case F => k_asm); (case X => k_asm); (case N => k_asm); (case O => k_asm); (case U => k_updF); (case b => (first | assumption | (unfold scanBound; omega)))); intro h' tk' o' F' N' O'; (try dsimp only at N')))
local macro_rules | `(tactic| walk_at "getMethod") => `(tactic| (k_here; (with_reducible show wpAny _ _ (getMethod (Value.type "set") _ _) _ _ _); (with_reducible refine' getMethod_setT ?F ?X ?e ?h ?_); k_dflt ((case F => k_asm); (case X => k_asm); (case e => first | with_reducible exact k_set_add | with_reducible exact k_set_remove | with_reducible exact k_set_update | with_reducible exact k_set_init | with_reducible exact k_set_inter | with_reducible exact k_set_diff | with_reducible exact k_set_interu | with_reducible exact k_set_diffu | with_reducible exact k_set_symu); (case h => rfl))))
local macro_rules | `(tactic| walk_at "call builtin:set.remove") => `(tactic| (k_here; (with_reducible show wpAny _ _ (call (Value.builtin "set.remove") [Value.ref _, Value.int _ _]) _ _ _); k_dflt (refine' remove_N ?F ?X ?N ?U ?O ?b ?k ?_; (case F => k_asm); (case X => k_asm); (case N => k_asm); (case O => k_asm); (case U => k_updF); (case b => (first | assumption | (unfold scanBound; omega))); (case k => assumption)); intro h' tk' o' F' N' O'; (try dsimp only at N')))
local macro_rules | `(tactic| walk_at "eval Call Attribute") => `(tactic| (k_here; k_dflt (refine methodCall_star (by rfl) (by rfl) ?_)))
local macro_rules | `(tactic| walk_at "getAttr") => `(tactic| (k_here; (with_reducible show wpAny _ _ (getAttr (Value.type "set") _ _) _ _ _); k_dflt (refine' getAttr_setT ?X ?e ?h ?_; (case X => k_in); (case e => first | with_reducible exact k_set_inter | with_reducible exact k_set_diff | with_reducible exact k_set_interu | with_reducible exact k_set_diffu); (case h => rfl))))
local macro_rules | `(tactic| walk_at "callWith") => `(tactic| (k_here; (with_reducible show wpAny _ _ (callWith _ (Value.builtin _) [] _ []) _ _ _); k_dflt (refine' callWith_starB ?b ?_ ?a ?c; (case a => rfl); (case c => rfl); (case b => exact fun _ => Looks.of_pure rfl))))

local macro_rules | `(tactic| walk_at "getMethod ref") => `(tactic| (k_here; (with_reducible show wpAny _ _ (getMethod (Value.ref _) _ _) _ _ _); k_dflt (refine' meth_N ?F ?X ?N ?m ?O ?n ?f ?t ?_; (case F => k_asm); (case X => k_asm); (case N => k_asm); (case O => k_asm); (case m => k_mem); (case n => k_mem); (case f => rfl); (case t => rfl))))

local macro_rules | `(tactic| walk_at "call builtin:iter") => `(tactic| (k_here; (with_reducible show wpAny _ _ (call (Value.builtin "iter") [Value.ref _]) _ _ _); refine hold_in ?_))
local macro_rules | `(tactic| walk_at "binaryOp Add ref ref") => `(tactic| (k_here; (with_reducible show wpAny _ _ (binaryOp _ (Value.ref _) (Value.ref _)) _ _ _); k_dflt (refine' addop_N ?F ?X ?I ?y ?c ?_; (case F => k_asm); (case X => k_asm); (case I => k_inst); (case y => exact News.get (by k_asm) (by k_mem)); (case c => rfl))))
local macro_rules | `(tactic| walk_at "eval DictComp") => `(tactic| (k_here; refine hold_in ?_))
theorem births_ct {w : World} {s₀ : Shared} {mg mb : Str → Option Value} {hb : Heap} {A : Around} {s : Shared} {R : Result → Shared → Prop} {pr npr a0 dx0 l0 : Addr} {ws : List Value} {xs shp : List Int} (Y : Ct w s₀ mg mb hb A s 800) (O : OSAt w hb s.heap a0 dx0 l0 shp) (hp : s.heap.get? pr = some (PySem.W.listOf ws.toArray npr)) (I : IntsAre ws xs) (hnd : xs.Nodup) (hsm : Small xs) (hbd : xs.length ≤ 16) (hpl : pr ≠ l0)
    (h : ∀ h' tk' B n ts, KeptBut [] s.heap h' → s.heap.get? B = none → h'.get? B = some (PySem.W.listOf (ts.map fun t : Trip => Value.ref t.1).toArray n) → ts.length = 11 → Fam w hb s.heap h' xs ts → B ∉ ads ts → R (.ok (.ret (.ref B))) { s with heap := h', toks := tk' }) :
    codeAny (model PySem.Challenge.rw_ep5040_01.row.prog w) A (.call (.ref 245) ⟨[.ref pr, .ref a0], []⟩) R s := by
  obtain ⟨hadx, hal, hdl⟩ := O.ne
  obtain ⟨⟨o, vs, n, ha, hl, O, I0⟩, hdx, ba, bd, bl⟩ := O
  have HW : ∀ p ∈ [(a0, o), (dx0, dictObj), (l0, PySem.W.listOf vs.toArray n)], s.heap.get? p.1 = some p.2 := by simp [ha, hdx, hl]
  have HF : ∀ p ∈ [(a0, o), (dx0, dictObj), (l0, PySem.W.listOf vs.toArray n)], hb.get? p.1 = none := by simp [ba, bd, bl]
  have KX0 := Y.C.K
  revert KX0
  k_fill
  intro KX0
  refine enter (f := 245) (binds := [(Str.ofString "row", Value.ref pr), (Str.ofString "asked", Value.ref a0)]) [(a0, o), (dx0, dictObj), (l0, PySem.W.listOf vs.toArray n)] Y.C Y.k HW HF (Nat.lt_trans Y.depth (by unfold recursionLimit; decide)) rfl (by k_is) (BindsTo.of_eq rfl) (locs rfl) ?_
  intro g L' h₁ hg Cg hsz hL F N
  have KX := Cg.K
  have T := Cg.T
  have hh := Y.hand
  clear KX0
  have hps : s.heap.IsList pr ws.toArray := ⟨_, hp, rfl, _, rfl⟩
  have k1 : KeptBut [] s.heap h₁ := kept_all HW hg F (fun p hp => (N p hp).1)
  have hpg : g.get? pr = some (PySem.W.listOf ws.toArray npr) := hg pr _ hp (by simp; exact ⟨fun e => set_ne_list ha O.set hps e.symm, fun e => dict_ne_list hdx hps e.symm, hpl⟩)
  have hpgl : g.IsList pr ws.toArray := ⟨_, hpg, rfl, _, rfl⟩
  have hz := I.length
  obtain ⟨T0, NT0, K0⟩ : ∃ T0, News g L' h₁ T0 ∧ Kp g L' w hb s.heap xs T0 [] := ⟨[], News.nil, kp_nil⟩
  have N0 := news_join N NT0
  simp only [List.cons_append, List.nil_append] at N0
  clear N NT0
  k_steps
  rename Fr g L' _ _ => F1
  rename News g L' _ _ => N1
  have NA1 : News g L' _ [(a0, o), (dx0, dictObj), (l0, PySem.W.listOf vs.toArray n)] := fun p hp => N1 p (by simp only [List.mem_cons, List.not_mem_nil, or_false] at hp ⊢; rcases hp with rfl | rfl | rfl <;> simp)
  have NT1 : News g L' _ T0 := fun p hp => N1 p (by simp [hp])
  have kX1 := kept_all HW hg F1 (fun p hp => (NA1 p hp).1)
  refine wpAny_call (os_of_list (Y.at (A' := _) (d' := 840) kX1 (by show A.depth + 1 + 800 ≤ A.depth + 840; omega) (by show A.units + 3 + 800 * 8 ≤ A.units + 840 * 8; omega) rfl) (N1.get (.head _)) I (by omega) hnd fun h1 tk1 a1 dx1 D1 k1 n11 n21 n31 O1 => ?_)
  obtain ⟨T1, NTa1, K1⟩ := fam_add F1 NT1 K0 k1 (by simp) (fun b ob e => kX1 b ob (by simp) e) n11 n21 n31 O1
  have Fa1 := fr_kept0 F1 k1
  have Na1 := news_join (news_kept0 NA1 k1) NTa1
  simp only [List.cons_append, List.nil_append] at Na1
  clear F1 N1 NA1 NT1 NTa1 K0 O1
  k_steps
  have I2 := ‹IntsAre _ (xs ++ xs)›
  rename Fr g L' _ _ => F2
  rename News g L' _ _ => N2
  have NA2 : News g L' _ [(a0, o), (dx0, dictObj), (l0, PySem.W.listOf vs.toArray n)] := fun p hp => N2 p (by simp only [List.mem_cons, List.not_mem_nil, or_false] at hp ⊢; rcases hp with rfl | rfl | rfl <;> simp)
  have NT2 : News g L' _ T1 := fun p hp => N2 p (by simp [hp])
  have kX2 := kept_all HW hg F2 (fun p hp => (NA2 p hp).1)
  refine wpAny_call (os_of_tup' (twice hnd) (Y.at (A' := _) (d' := 840) kX2 (by show A.depth + 1 + 800 ≤ A.depth + 840; omega) (by show A.units + 3 + 800 * 8 ≤ A.units + 840 * 8; omega) rfl) (N2.get (.head _)) I2 (by simp; omega) fun h2 tk2 a2 dx2 D2 k2 n12 n22 n32 O2 => ?_)
  obtain ⟨T2, NTa2, K2⟩ := fam_add F2 NT2 K1 k2 (by simp) (fun b ob e => kX2 b ob (by simp) e) n12 n22 n32 O2
  have Fa2 := fr_kept0 F2 k2
  have Na2 := news_join (news_kept0 NA2 k2) NTa2
  simp only [List.cons_append, List.nil_append] at Na2
  clear F2 N2 NA2 NT2 NTa2 K1 O2
  k_steps
  unfold Hold
  have kX2' : KeptBut [] s.heap h2 := kX2.comp k2
  refine call_iter_list (l := pr) (items := ws.toArray) ⟨_, Fa2.keep _ _ hpg, rfl, _, rfl⟩ ?_
  have F3 := Fa2.push (litObj pr 0)
  have NA3 : News g L' (h2.push (litObj pr 0)) [(a0, o), (dx0, dictObj), (l0, PySem.W.listOf vs.toArray n)] := fun p hp => (news_kept0 Na2 (kept_push (litObj pr 0))) p (by simp only [List.mem_cons, List.not_mem_nil, or_false] at hp ⊢; rcases hp with rfl | rfl | rfl <;> simp)
  have NT3 : News g L' (h2.push (litObj pr 0)) T2 := fun p hp => (news_kept0 Na2 (kept_push (litObj pr 0))) p (by simp [hp])
  have hne3 : ∀ p ∈ (a0, o) :: (dx0, dictObj) :: (l0, PySem.W.listOf vs.toArray n) :: T2, p.1 ∉ [h2.objs.size] := fun p hp q => Nat.ne_of_lt (Heap.lt_size (Na2 p hp).1) (List.mem_singleton.mp q)
  have g3 : g.get? h2.objs.size = none := stays_none (fun b ob e => Fa2.keep b ob e) (fresh_at _)
  have L3 : L' ∉ [h2.objs.size] := fun q => Nat.ne_of_lt Fa2.ns.lt (List.mem_singleton.mp q)
  have s3 : hb.get? h2.objs.size = none := stays_none Y.k (kept_none kX2' (fresh_at _))
  have kX3 : KeptBut [] s.heap (h2.push (litObj pr 0)) := kX2'.comp (kept_push _)
  clear Na2 Fa2
  k_steps
  refine wpAny_call (os_of_iter (Y.at (A' := _) (d' := 840) kX3 (by show A.depth + 1 + 800 ≤ A.depth + 840; omega) (by show A.units + 3 + 800 * 8 ≤ A.units + 840 * 8; omega) rfl) (Heap.get?_push_size h2 (o := litObj pr 0) rfl) rfl rfl ⟨_, F3.keep _ _ hpg, rfl, _, rfl⟩ s3 I (by omega) hnd fun h3 tk3 a3 dx3 D3 k3 n13 n23 n33 O3 => ?_)
  obtain ⟨T3, NTa3, K3⟩ := fam_add F3 NT3 K2 k3 (fun p hp => hne3 p (by simp [hp])) (fun b ob e => kX3 b ob (by simp) e) n13 n23 n33 O3
  have Fa3 := fr_kept F3 k3 L3 (fun b hb' => by rw [List.mem_singleton.mp hb']; exact g3)
  have Na3 := news_join (news_keptW NA3 k3 (fun p hp => hne3 p (by simp only [List.mem_cons, List.not_mem_nil, or_false] at hp ⊢; rcases hp with rfl | rfl | rfl <;> simp))) NTa3
  simp only [List.cons_append, List.nil_append] at Na3
  have kX3' : KeptBut [] s.heap h3 := kept_all HW hg Fa3 (fun p hp => (Na3 p (by simp only [List.mem_cons, List.not_mem_nil, or_false] at hp ⊢; rcases hp with rfl | rfl | rfl <;> simp)).1)
  clear F3 NA3 NT3 NTa3 K2 O3 hne3
  k_steps
  unfold Hold
  refine dictcomp_N (l := pr) (vs := ws) (xs := xs) hh ⟨_, Fa3.keep _ _ hpg, rfl, _, rfl⟩ I (by omega) hnd (by with_unfolding_all rfl) (by decide) (by rfl) (by decide) (by rfl) (by decide) ?q1 ?q2 ?_
  case q1 => k_steps
  case q2 =>
    intro C s5 E5
    exact wpAny_Constant_int ⟨s5.heap, _, rfl, fun _ _ e => e⟩
  intro Dd hd4 tkd kvs kd4 nd4 dd4 ed4
  have Fb4 := fr_kept0 Fa3 kd4
  have Nb4 := news_kept0 Na3 kd4
  have lo4 := not_sys' T Fa3.keep nd4
  clear Fa3 Na3
  k_steps
  rename Fr g L' _ _ => F4
  rename News g L' _ _ => N4
  have NA4 : News g L' _ [(a0, o), (dx0, dictObj), (l0, PySem.W.listOf vs.toArray n)] := fun p hp => N4 p (by simp only [List.mem_cons, List.not_mem_nil, or_false] at hp ⊢; rcases hp with rfl | rfl | rfl <;> simp)
  have NT4 : News g L' _ T3 := fun p hp => N4 p (by simp [hp])
  have kX4 := kept_all HW hg F4 (fun p hp => (NA4 p hp).1)
  refine wpAny_call (os_of_dict (Y.at (A' := _) (d' := 840) kX4 (by show A.depth + 1 + 800 ≤ A.depth + 840; omega) (by show A.units + 3 + 800 * 8 ≤ A.units + 840 * 8; omega) rfl) dd4 lo4 ed4 (by omega) fun h4 tk4 a4 dx4 D4 k4 n14 n24 n34 O4 => ?_)
  obtain ⟨T4, NTa4, K4⟩ := fam_add F4 NT4 K3 k4 (by simp) (fun b ob e => kX4 b ob (by simp) e) n14 n24 n34 O4
  have Fa4 := fr_kept0 F4 k4
  have Na4 := news_join (news_kept0 NA4 k4) NTa4
  simp only [List.cons_append, List.nil_append] at Na4
  clear F4 N4 NA4 NT4 NTa4 K3 O4
  k_steps
  rename Fr g L' _ _ => F5
  rename News g L' _ _ => N5
  have NA5 : News g L' _ [(a0, o), (dx0, dictObj), (l0, PySem.W.listOf vs.toArray n)] := fun p hp => N5 p (by simp only [List.mem_cons, List.not_mem_nil, or_false] at hp ⊢; rcases hp with rfl | rfl | rfl <;> simp)
  have NT5 : News g L' _ T4 := fun p hp => N5 p (by simp [hp])
  have kX5 := kept_all HW hg F5 (fun p hp => (NA5 p hp).1)
  refine wpAny_call (os_of_list (Y.at (A' := _) (d' := 840) kX5 (by show A.depth + 1 + 800 ≤ A.depth + 840; omega) (by show A.units + 3 + 800 * 8 ≤ A.units + 840 * 8; omega) rfl) (F5.keep _ _ hpg) I (by omega) hnd fun h5 tk5 a5 dx5 D5 k5 n15 n25 n35 O5 => ?_)
  obtain ⟨⟨o5, vs5, m5, ha5, hl5, O5, I5⟩, hd5, ba5, bd5, bl5⟩ := O5
  have Fa5 := fr_kept0 F5 k5
  have Na5 := news_born F5 (news_join NA5 NT5) k5 n15 n25 n35 ha5 hd5 hl5
  simp only [List.cons_append, List.nil_append] at Na5
  clear F5 N5 NA5 NT5 ha5 hl5 hd5
  k_steps
  rename Fr g L' _ _ => F6
  rename News g L' _ _ => N6
  have NA6 : News g L' _ [(a0, o), (dx0, dictObj), (l0, PySem.W.listOf vs.toArray n)] := fun p hp => N6 p (by simp only [List.mem_cons, List.not_mem_nil, or_false] at hp ⊢; rcases hp with rfl | rfl | rfl <;> simp)
  have NT6 : News g L' _ T4 := fun p hp => N6 p (by simp [hp])
  have kX6 := kept_all HW hg F6 (fun p hp => (NA6 p hp).1)
  refine wpAny_call (os_of_os (Y.at (A' := _) (d' := 840) kX6 (by show A.depth + 1 + 800 ≤ A.depth + 840; omega) (by show A.units + 3 + 800 * 8 ≤ A.units + 840 * 8; omega) rfl) (.mk' (N6.get (by k_mem)) (N6.get (by k_mem)) (N6.get (by k_mem)) O5 I5 ba5 bd5 bl5) (by omega) fun h6 tk6 a6 dx6 D6 k6 n16 n26 n36 O6 => ?_)
  obtain ⟨T6, NTa6, K6⟩ := fam_add F6 NT6 K4 k6 (by simp) (fun b ob e => kX6 b ob (by simp) e) n16 n26 n36 O6
  have Fa6 := fr_kept0 F6 k6
  have Na6 := news_join (news_kept0 NA6 k6) NTa6
  simp only [List.cons_append, List.nil_append] at Na6
  clear F6 N6 NA6 NT6 NTa6 K4 O6
  clear O5 I5 ba5 bd5 bl5
  k_steps
  rename_i D7 c7 g7 F7 N7 l7
  have NA7 : News g L' _ [(a0, o), (dx0, dictObj), (l0, PySem.W.listOf vs.toArray n)] := fun p hp => N7 p (by simp only [List.mem_cons, List.not_mem_nil, or_false] at hp ⊢; rcases hp with rfl | rfl | rfl <;> simp)
  have NT7 : News g L' _ T6 := fun p hp => N7 p (by simp [hp])
  have kX7 := kept_all HW hg F7 (fun p hp => (NA7 p hp).1)
  have q7 := N7 (D7, _) (.head _)
  obtain ⟨l7a, l7b, l7c, l7d⟩ := l7
  have hs7 : s.heap.get? D7 = none := none_of_g hg q7.2.2 (by simp only [List.forall_mem_cons]; refine ⟨?_, ?_, ?_, fun p hp => by simp at hp⟩ <;> omega)
  have of7 := allLt_off K6 l7d
  refine wpAny_call (from_list_ct (Y.at (A' := _) (d' := 880) kX7 (by show A.depth + 1 + 800 ≤ A.depth + 880; omega) (by show A.units + 3 + 800 * 8 ≤ A.units + 880 * 8; omega) rfl) q7.1 I hnd (stays_none Y.k hs7) (by omega) fun h7 tk7 a7 dx7 k7 n17 n27 O7 => ?_)
  obtain ⟨T7, NTa7, K7⟩ := fam_add' NT7 K6 k7 (by simp) (fresh3 F7 NT7 K6 (fun b ob e => kX7 b ob (by simp) e) n17 n27 q7.2 hs7 of7) O7
  have Fa7 := fr_kept0 F7 k7
  have Na7 := news_join (news_kept0 NA7 k7) NTa7
  simp only [List.cons_append, List.nil_append] at Na7
  clear F7 N7 NA7 NT7 NTa7 K6 O7 of7 l7d
  k_steps
  rename Fr g L' _ _ => F8
  rename News g L' _ _ => N8
  have NA8 : News g L' _ [(a0, o), (dx0, dictObj), (l0, PySem.W.listOf vs.toArray n)] := fun p hp => N8 p (by simp only [List.mem_cons, List.not_mem_nil, or_false] at hp ⊢; rcases hp with rfl | rfl | rfl <;> simp)
  have NT8 : News g L' _ T7 := fun p hp => N8 p (by simp [hp])
  have kX8 := kept_all HW hg F8 (fun p hp => (NA8 p hp).1)
  refine wpAny_call (os_of_list (Y.at (A' := _) (d' := 840) kX8 (by show A.depth + 1 + 800 ≤ A.depth + 840; omega) (by show A.units + 3 + 800 * 8 ≤ A.units + 840 * 8; omega) rfl) (F8.keep _ _ hpg) I (by omega) hnd fun h8 tk8 a8 dx8 D8 k8 n18 n28 n38 O8 => ?_)
  obtain ⟨⟨o8, vs8, m8, ha8, hl8, O8, I8⟩, hd8, ba8, bd8, bl8⟩ := O8
  have Fa8 := fr_kept0 F8 k8
  have Na8 := news_born F8 (news_join NA8 NT8) k8 n18 n28 n38 ha8 hd8 hl8
  simp only [List.cons_append, List.nil_append] at Na8
  clear F8 N8 NA8 NT8 ha8 hl8 hd8
  k_steps
  rename Fr g L' _ _ => F9
  rename News g L' _ _ => N9
  have NA9 : News g L' _ [(a0, o), (dx0, dictObj), (l0, PySem.W.listOf vs.toArray n)] := fun p hp => N9 p (by simp only [List.mem_cons, List.not_mem_nil, or_false] at hp ⊢; rcases hp with rfl | rfl | rfl <;> simp)
  have NT9 : News g L' _ T7 := fun p hp => N9 p (by simp [hp])
  have kX9 := kept_all HW hg F9 (fun p hp => (NA9 p hp).1)
  refine wpAny_call (copy_ct (Y.at (A' := _) (d' := 860) kX9 (by show A.depth + 1 + 800 ≤ A.depth + 860; omega) (by show A.units + 3 + 800 * 8 ≤ A.units + 860 * 8; omega) rfl) (.mk' (N9.get (by k_mem)) (N9.get (by k_mem)) (N9.get (by k_mem)) O8 I8 ba8 bd8 bl8) (by omega) fun h9 tk9 a9 dx9 D9 k9 n19 n29 n39 O9 => ?_)
  obtain ⟨T9, NTa9, K9⟩ := fam_add F9 NT9 K7 k9 (by simp) (fun b ob e => kX9 b ob (by simp) e) n19 n29 n39 O9
  have Fa9 := fr_kept0 F9 k9
  have Na9 := news_join (news_kept0 NA9 k9) NTa9
  simp only [List.cons_append, List.nil_append] at Na9
  clear F9 N9 NA9 NT9 NTa9 K7 O9
  clear O8 I8 ba8 bd8 bl8
  k_steps
  rename Fr g L' _ _ => F10
  rename News g L' _ _ => N10
  have NA10 : News g L' _ [(a0, o), (dx0, dictObj), (l0, PySem.W.listOf vs.toArray n)] := fun p hp => N10 p (by simp only [List.mem_cons, List.not_mem_nil, or_false] at hp ⊢; rcases hp with rfl | rfl | rfl <;> simp)
  have NT10 : News g L' _ T9 := fun p hp => N10 p (by simp [hp])
  have kX10 := kept_all HW hg F10 (fun p hp => (NA10 p hp).1)
  refine wpAny_call (os_of_list (Y.at (A' := _) (d' := 840) kX10 (by show A.depth + 1 + 800 ≤ A.depth + 840; omega) (by show A.units + 3 + 800 * 8 ≤ A.units + 840 * 8; omega) rfl) (F10.keep _ _ hpg) I (by omega) hnd fun h10 tk10 a10 dx10 D10 k10 n110 n210 n310 O10 => ?_)
  obtain ⟨⟨o10, vs10, m10, ha10, hl10, O10, I10⟩, hd10, ba10, bd10, bl10⟩ := O10
  have Fa10 := fr_kept0 F10 k10
  have Na10 := news_born F10 (news_join NA10 NT10) k10 n110 n210 n310 ha10 hd10 hl10
  simp only [List.cons_append, List.nil_append] at Na10
  clear F10 N10 NA10 NT10 ha10 hl10 hd10
  k_steps
  rename Fr g L' _ _ => F11
  rename News g L' _ _ => N11
  have NA11 : News g L' _ [(a0, o), (dx0, dictObj), (l0, PySem.W.listOf vs.toArray n)] := fun p hp => N11 p (by simp only [List.mem_cons, List.not_mem_nil, or_false] at hp ⊢; rcases hp with rfl | rfl | rfl <;> simp)
  have NT11 : News g L' _ T9 := fun p hp => N11 p (by simp [hp])
  have kX11 := kept_all HW hg F11 (fun p hp => (NA11 p hp).1)
  refine wpAny_call (union0_ct (Y.at (A' := _) (d' := 840) kX11 (by show A.depth + 1 + 800 ≤ A.depth + 840; omega) (by show A.units + 3 + 800 * 8 ≤ A.units + 840 * 8; omega) rfl) (.mk' (N11.get (by k_mem)) (N11.get (by k_mem)) (N11.get (by k_mem)) O10 I10 ba10 bd10 bl10) (by omega) fun h11 tk11 a11 dx11 D11 k11 n111 n211 n311 O11 => ?_)
  obtain ⟨T11, NTa11, K11⟩ := fam_add F11 NT11 K9 k11 (by simp) (fun b ob e => kX11 b ob (by simp) e) n111 n211 n311 O11
  have Fa11 := fr_kept0 F11 k11
  have Na11 := news_join (news_kept0 NA11 k11) NTa11
  simp only [List.cons_append, List.nil_append] at Na11
  clear F11 N11 NA11 NT11 NTa11 K9 O11
  clear O10 I10 ba10 bd10 bl10
  k_steps
  rename Fr g L' _ _ => F12
  rename News g L' _ _ => N12
  have NA12 : News g L' _ [(a0, o), (dx0, dictObj), (l0, PySem.W.listOf vs.toArray n)] := fun p hp => N12 p (by simp only [List.mem_cons, List.not_mem_nil, or_false] at hp ⊢; rcases hp with rfl | rfl | rfl <;> simp)
  have NT12 : News g L' _ T11 := fun p hp => N12 p (by simp [hp])
  have kX12 := kept_all HW hg F12 (fun p hp => (NA12 p hp).1)
  refine wpAny_call (os_of_list (Y.at (A' := _) (d' := 840) kX12 (by show A.depth + 1 + 800 ≤ A.depth + 840; omega) (by show A.units + 3 + 800 * 8 ≤ A.units + 840 * 8; omega) rfl) (F12.keep _ _ hpg) I (by omega) hnd fun h12 tk12 a12 dx12 D12 k12 n112 n212 n312 O12 => ?_)
  obtain ⟨⟨o12, vs12, m12, ha12, hl12, O12, I12⟩, hd12, ba12, bd12, bl12⟩ := O12
  have Fa12 := fr_kept0 F12 k12
  have Na12 := news_born F12 (news_join NA12 NT12) k12 n112 n212 n312 ha12 hd12 hl12
  simp only [List.cons_append, List.nil_append] at Na12
  clear F12 N12 NA12 NT12 ha12 hl12 hd12
  k_steps
  rename Fr g L' _ _ => F13
  rename News g L' _ _ => N13
  have NA13 : News g L' _ [(a0, o), (dx0, dictObj), (l0, PySem.W.listOf vs.toArray n)] := fun p hp => N13 p (by simp only [List.mem_cons, List.not_mem_nil, or_false] at hp ⊢; rcases hp with rfl | rfl | rfl <;> simp)
  have NT13 : News g L' _ T11 := fun p hp => N13 p (by simp [hp])
  have kX13 := kept_all HW hg F13 (fun p hp => (NA13 p hp).1)
  refine wpAny_call (diff0_ct (Y.at (A' := _) (d' := 840) kX13 (by show A.depth + 1 + 800 ≤ A.depth + 840; omega) (by show A.units + 3 + 800 * 8 ≤ A.units + 840 * 8; omega) rfl) (.mk' (N13.get (by k_mem)) (N13.get (by k_mem)) (N13.get (by k_mem)) O12 I12 ba12 bd12 bl12) hsm hbd fun h13 tk13 a13 dx13 D13 k13 n113 n213 n313 O13 => ?_)
  obtain ⟨T13, NTa13, K13⟩ := fam_add F13 NT13 K11 k13 (by simp) (fun b ob e => kX13 b ob (by simp) e) n113 n213 n313 O13
  have Fa13 := fr_kept0 F13 k13
  have Na13 := news_join (news_kept0 NA13 k13) NTa13
  simp only [List.cons_append, List.nil_append] at Na13
  clear F13 N13 NA13 NT13 NTa13 K11 O13
  clear O12 I12 ba12 bd12 bl12
  k_steps
  rename Fr g L' _ _ => F14
  rename News g L' _ _ => N14
  have NA14 : News g L' _ [(a0, o), (dx0, dictObj), (l0, PySem.W.listOf vs.toArray n)] := fun p hp => N14 p (by simp only [List.mem_cons, List.not_mem_nil, or_false] at hp ⊢; rcases hp with rfl | rfl | rfl <;> simp)
  have NT14 : News g L' _ T13 := fun p hp => N14 p (by simp [hp])
  have kX14 := kept_all HW hg F14 (fun p hp => (NA14 p hp).1)
  refine wpAny_call (os_of_list (Y.at (A' := _) (d' := 840) kX14 (by show A.depth + 1 + 800 ≤ A.depth + 840; omega) (by show A.units + 3 + 800 * 8 ≤ A.units + 840 * 8; omega) rfl) (F14.keep _ _ hpg) I (by omega) hnd fun h14 tk14 a14 dx14 D14 k14 n114 n214 n314 O14 => ?_)
  obtain ⟨⟨o14, vs14, m14, ha14, hl14, O14, I14⟩, hd14, ba14, bd14, bl14⟩ := O14
  have Fa14 := fr_kept0 F14 k14
  have Na14 := news_born F14 (news_join NA14 NT14) k14 n114 n214 n314 ha14 hd14 hl14
  simp only [List.cons_append, List.nil_append] at Na14
  clear F14 N14 NA14 NT14 ha14 hl14 hd14
  k_steps
  rename Fr g L' _ _ => F15
  rename News g L' _ _ => N15
  have NA15 : News g L' _ [(a0, o), (dx0, dictObj), (l0, PySem.W.listOf vs.toArray n)] := fun p hp => N15 p (by simp only [List.mem_cons, List.not_mem_nil, or_false] at hp ⊢; rcases hp with rfl | rfl | rfl <;> simp)
  have NT15 : News g L' _ T13 := fun p hp => N15 p (by simp [hp])
  have kX15 := kept_all HW hg F15 (fun p hp => (NA15 p hp).1)
  refine wpAny_call (inter0_ct (Y.at (A' := _) (d' := 840) kX15 (by show A.depth + 1 + 800 ≤ A.depth + 840; omega) (by show A.units + 3 + 800 * 8 ≤ A.units + 840 * 8; omega) rfl) (.mk' (N15.get (by k_mem)) (N15.get (by k_mem)) (N15.get (by k_mem)) O14 I14 ba14 bd14 bl14) hsm hbd fun h15 tk15 a15 dx15 D15 k15 n115 n215 n315 O15 => ?_)
  obtain ⟨T15, NTa15, K15⟩ := fam_add F15 NT15 K13 k15 (by simp) (fun b ob e => kX15 b ob (by simp) e) n115 n215 n315 O15
  have Fa15 := fr_kept0 F15 k15
  have Na15 := news_join (news_kept0 NA15 k15) NTa15
  simp only [List.cons_append, List.nil_append] at Na15
  clear F15 N15 NA15 NT15 NTa15 K13 O15
  clear O14 I14 ba14 bd14 bl14
  k_steps
  rename Fr g L' _ _ => F16
  rename News g L' _ _ => N16
  have NA16 : News g L' _ [(a0, o), (dx0, dictObj), (l0, PySem.W.listOf vs.toArray n)] := fun p hp => N16 p (by simp only [List.mem_cons, List.not_mem_nil, or_false] at hp ⊢; rcases hp with rfl | rfl | rfl <;> simp)
  have NT16 : News g L' _ T15 := fun p hp => N16 p (by simp [hp])
  have kX16 := kept_all HW hg F16 (fun p hp => (NA16 p hp).1)
  refine wpAny_call (os_of_list (Y.at (A' := _) (d' := 840) kX16 (by show A.depth + 1 + 800 ≤ A.depth + 840; omega) (by show A.units + 3 + 800 * 8 ≤ A.units + 840 * 8; omega) rfl) (F16.keep _ _ hpg) I (by omega) hnd fun h16 tk16 a16 dx16 D16 k16 n116 n216 n316 O16 => ?_)
  obtain ⟨⟨o16, vs16, m16, ha16, hl16, O16, I16⟩, hd16, ba16, bd16, bl16⟩ := O16
  have Fa16 := fr_kept0 F16 k16
  have Na16 := news_born F16 (news_join NA16 NT16) k16 n116 n216 n316 ha16 hd16 hl16
  simp only [List.cons_append, List.nil_append] at Na16
  clear F16 N16 NA16 NT16 ha16 hl16 hd16
  k_steps
  rename Fr g L' _ _ => F17
  rename News g L' _ _ => N17
  have NA17 : News g L' _ [(a0, o), (dx0, dictObj), (l0, PySem.W.listOf vs.toArray n)] := fun p hp => N17 p (by simp only [List.mem_cons, List.not_mem_nil, or_false] at hp ⊢; rcases hp with rfl | rfl | rfl <;> simp)
  have NT17 : News g L' _ T15 := fun p hp => N17 p (by simp [hp])
  have kX17 := kept_all HW hg F17 (fun p hp => (NA17 p hp).1)
  refine wpAny_call (addop_ct' (Y.at (A' := _) (d' := 820) kX17 (by show A.depth + 1 + 800 ≤ A.depth + 820; omega) (by show A.units + 3 + 800 * 8 ≤ A.units + 820 * 8; omega) rfl) (.mk' (N17.get (by k_mem)) (N17.get (by k_mem)) (N17.get (by k_mem)) O16 I16 ba16 bd16 bl16) (N17.get (.head _)) (by omega) fun h17 tk17 a17 dx17 D17 k17 n117 n217 n317 O17 => ?_)
  obtain ⟨T17, NTa17, K17⟩ := fam_add F17 NT17 K15 k17 (by simp) (fun b ob e => kX17 b ob (by simp) e) n117 n217 n317 O17
  have Fa17 := fr_kept0 F17 k17
  have Na17 := news_join (news_kept0 NA17 k17) NTa17
  simp only [List.cons_append, List.nil_append] at Na17
  clear F17 N17 NA17 NT17 NTa17 K15 O17
  clear O16 I16 ba16 bd16 bl16
  dsimp only [PySem.W.CmpBack]
  k_steps
  rename_i B hB F18 N18 l18
  have NA18 : News g L' _ [(a0, o), (dx0, dictObj), (l0, PySem.W.listOf vs.toArray n)] := fun p hp => N18 p (by simp only [List.mem_cons, List.not_mem_nil, or_false] at hp ⊢; rcases hp with rfl | rfl | rfl <;> simp)
  have NT18 : News g L' _ T17 := fun p hp => N18 p (by simp [hp])
  have kX18 := kept_all HW hg F18 (fun p hp => (NA18 p hp).1)
  obtain ⟨l18a, l18b, l18c, l18d⟩ := l18
  have q18 := N18 (B, _) (.head _)
  have hs18 : s.heap.get? B = none := none_of_g hg q18.2.2 (by simp only [List.forall_mem_cons]; refine ⟨?_, ?_, ?_, fun p hp => by simp at hp⟩ <;> omega)
  refine h hB _ B 0 _ kX18 hs18 ?_ ?_ (K17.2 _ NT18) (allLt_off K17 l18d)
  · exact q18.1
  · rfl
end Mine
end

section
open PySem PySem.W PyProof.Rows PySem.Builtin.Frozenset PySem.Calls
set_option Elab.async false
set_option maxRecDepth 100000
set_option maxHeartbeats 4000000
namespace Mine

theorem ints_snoc {ys : List Value} {f : Nat → Int} {i : Nat} (hJ : IntsAre ys ((List.range i).map f)) {n : Int} {t : Tok} (e : n = f i) : IntsAre (ys ++ [.int n t]) ((List.range (i + 1)).map f) := by
  rw [List.range_succ, List.map_append, e]
  exact IntsAre.append hJ (.cons _ _ .nil)
def rowF (fv : Int) : List Int := (List.range ((fv + 1).fmod 7).toNat).map fun (i : Nat) => (fv.fdiv 7 + 3 * (i : Int)).fmod 10
theorem rowF_digs (fv : Int) : Digs (rowF fv) := by
  unfold rowF
  have f1 : (fv + 1).fmod 7 < 7 := Int.fmod_lt_of_pos _ (by decide)
  have h4 : ((fv + 1).fmod 7).toNat ≤ 6 := by omega
  generalize ((fv + 1).fmod 7).toNat = n at h4
  refine ⟨List.nodup_iff_pairwise_ne.mpr ?_, fun k hk => ?_⟩
  · rw [List.pairwise_map]
    refine List.Pairwise.imp_of_mem ?_ (List.nodup_iff_pairwise_ne.mp List.nodup_range)
    intro i j hi hj hij e
    rw [List.mem_range] at hi hj
    rw [Int.fmod_eq_emod_of_nonneg _ (by decide), Int.fmod_eq_emod_of_nonneg _ (by decide)] at e
    omega
  · obtain ⟨i, _, rfl⟩ := List.mem_map.mp hk
    exact ⟨Int.fmod_nonneg_of_pos _ (by decide), Int.fmod_lt_of_pos _ (by decide)⟩
end Mine
end

section
open PySem PySem.W PyProof.Rows PySem.Builtin.Frozenset PySem.Calls
set_option Elab.async false
set_option maxRecDepth 100000
set_option maxHeartbeats 4000000
namespace Mine

/-- the end of a loop's turn; the ledger's part may grow -/
def TurnEnd2 (h₀ : Heap) (L : Addr) (J : (Str → Option Value) → List (Addr × Obj) → Prop) (fx : List (Addr × Obj)) (I : Addr) (s₁ : Shared) (Qr : Value → Shared → Prop) (f : Flow) (s' : Shared) : Prop :=
  match f with
  | .ret v => Qr v s'
  | .brk => False
  | _ => ∃ h' tk' m' news', s' = { s₁ with heap := h', toks := tk' } ∧ Fr h₀ L h' m' ∧ News h₀ L h' (fx ++ news') ∧ (∀ p ∈ news', p.1 ≠ I) ∧ J m' news'

theorem TurnEnd2.next {h₀ : Heap} {L I : Addr} {J : (Str → Option Value) → List (Addr × Obj) → Prop} {fx : List (Addr × Obj)} {s₁ : Shared} {Qr : Value → Shared → Prop} {h' : Heap} {tk' : Nat} {m' : Str → Option Value} {news' : List (Addr × Obj)}
    (F : Fr h₀ L h' m') (N : News h₀ L h' (fx ++ news')) (ha : ∀ p ∈ news', p.1 ≠ I) (hJ : J m' news') : TurnEnd2 h₀ L J fx I s₁ Qr .next { s₁ with heap := h', toks := tk' } := ⟨h', tk', m', news', rfl, F, N, ha, hJ⟩

section
variable {prog : Program} {w : World} {A : Around} {E : Value → Shared → Prop} {s : Shared} {env : Env} {h₀ : Heap} {x : Str} {body : List Stmt} {Q : Flow → Shared → Prop}

theorem for_my2 {I : Addr} {fp : List Addr} {n : Nat} {P : Nat → Value → Prop} {St : Nat → Heap → Prop} {news src : List (Addr × Obj)} {m₀ : Str → Option Value} {oI : Obj} (J : Nat → (Str → Option Value) → List (Addr × Obj) → Prop)
    (W : Walks prog w A I fp [I] n P St) (hSt : ∀ i h, St i h → ∃ o, h.get? I = some o) (hIf : I ∈ fp) (hst : St 0 s.heap) (F : Fr h₀ env.locals s.heap m₀) (N : News h₀ env.locals s.heap ((I, oI) :: (src ++ news)))
    (hfp : ∀ b ∈ fp, b = I ∨ (∃ o, (b, o) ∈ src) ∨ ∃ o, h₀.get? b = some o) (hLf : env.locals ∉ fp) (hI : ∀ p ∈ src ++ news, p.1 ≠ I) (hJ : J 0 m₀ news)
    (turn : ∀ i v m₁ news₁ h tk oI', i < n → P i v → J i m₁ news₁ → (∀ p ∈ news₁, p.1 ≠ I) → Fr h₀ env.locals h (fun z => if z = x then some v else m₁ z) → News h₀ env.locals h ((I, oI') :: (src ++ news₁)) →
      wpAny (model prog w) A (execs body env) (TurnEnd2 h₀ env.locals (J (i + 1)) ((I, oI') :: src) I { s with heap := h, toks := tk } (fun v s' => Q (.ret v) s')) E { s with heap := h, toks := tk })
    (done : ∀ h' tk m' news', Fr h₀ env.locals h' m' → News h₀ env.locals h' (src ++ news') → J n m' news' → Q .next { s with heap := h', toks := tk }) :
    LoopAtV prog w A h₀ env x body Q E (.ref I) s := by
  have hI0 : h₀.get? I = none := (N _ (.head _)).2.2
  refine ⟨I, fp, [I], n, P, St, m₀, src ++ news, fun i m full => ∃ news₁, full = src ++ news₁ ∧ (∀ p ∈ news₁, p.1 ≠ I) ∧ J i m news₁, rfl, W, hLf, ?_, ?_, hst, F, fun p hp => N p (.tail _ hp), ⟨news, rfl, fun p hp => hI p (List.mem_append_right _ hp), hJ⟩, ?_, ?_⟩
  · intro b hb; rw [List.mem_singleton.mp hb]; exact hI0
  · intro p hp hm; exact hI p hp (List.mem_singleton.mp hm)
  · rintro i v m₁ full s₁ own ⟨hp, tk, rfl⟩ hi hPv ⟨news₁, rfl, ha, hJi⟩ hoff hof hov hown hst' F₁ N₁
    obtain ⟨oI', hoI⟩ : ∃ oI', hp.get? I = some oI' := hSt _ _ hst'
    have hIown : (I, oI') ∈ own := hown I hIf hI0 oI' hoI
    have N₂ : News h₀ env.locals hp ((I, oI') :: (src ++ news₁)) := fun p hp' => by
      rcases List.mem_cons.mp hp' with rfl | q
      · exact N₁ _ (List.mem_append_left _ hIown)
      · exact N₁ p (List.mem_append_right _ q)
    refine wpAny_mono (turn i v m₁ news₁ hp tk oI' hi hPv hJi ha F₁ N₂) (fun f s' z => ?_) fun _ _ z => z
    have fin : (∃ h' tk' m' news', s' = { s with heap := h', toks := tk' } ∧ Fr h₀ env.locals h' m' ∧ News h₀ env.locals h' (((I, oI') :: src) ++ news') ∧ (∀ p ∈ news', p.1 ≠ I) ∧ J (i + 1) m' news') →
        LoopStepU h₀ env.locals [I] own (fun m full => ∃ news₁, full = src ++ news₁ ∧ (∀ p ∈ news₁, p.1 ≠ I) ∧ J (i + 1) m news₁) { s with heap := hp, toks := tk } .next s' := by
      rintro ⟨h', tk', m', news', e, F', N', ha', hJ'⟩
      refine ⟨rfl, h', tk', m', src ++ news', e, F', fun p hp' => ?_, fun p hp' hm => ?_, news', rfl, ha', hJ'⟩
      · rcases List.mem_append.mp hp' with q | q
        · rcases hfp p.1 (hof p q) with h1 | ⟨o, h1⟩ | ⟨o, h1⟩
          · have e1 := hov p q
            rw [h1] at e1
            dsimp only at e1
            rw [hoI] at e1
            have : p = (I, oI') := Prod.ext h1 (Option.some.inj e1).symm
            rw [this]
            exact N' _ (.head _)
          · have e1 := hov p q
            have e2 := (N₂ (p.1, o) (.tail _ (List.mem_append_left _ h1))).1
            dsimp only at e1 e2
            rw [e2] at e1
            have : p = (p.1, o) := Prod.ext rfl (Option.some.inj e1).symm
            rw [this]
            exact N' _ (.tail _ (List.mem_append_left _ h1))
          · have := (N₁ p (List.mem_append_left _ q)).2.2
            rw [h1] at this; cases this
        · exact N' p (.tail _ q)
      · rcases List.mem_append.mp hp' with q | q
        · exact hI p (List.mem_append_left _ q) (List.mem_singleton.mp hm)
        · exact ha' p q (List.mem_singleton.mp hm)
    cases f with
    | ret v => exact z
    | brk => exact z.elim
    | next => exact fin z
    | cont => exact fin z
  · rintro h' tk m' full F' N' hoff ⟨news', rfl, ha, hJn⟩
    exact done h' tk m' news' F' N' hJn

/-- a loop over a list of ints that stands in the ledger's fixed part -/
theorem for_list2 {y : Addr} {vs : List Value} {ns : List Int} {news src : List (Addr × Obj)} {m₀ : Str → Option Value} (J : Nat → (Str → Option Value) → List (Addr × Obj) → Prop)
    (hh : A.handled = none) (hl : s.heap.IsList y vs.toArray) (hi : IntsAre vs ns) (F : Fr h₀ env.locals s.heap m₀) (N : News h₀ env.locals s.heap (src ++ news)) (hsrc : ∃ o, (y, o) ∈ src) (hJ : J 0 m₀ news)
    (turn : ∀ i n t m₁ news₁ h tk I oI, ns[i]? = some n → (∀ p ∈ src ++ news, p.1 < I) → J i m₁ news₁ → (∀ p ∈ news₁, p.1 ≠ I) → Fr h₀ env.locals h (fun z => if z = x then some (.int n t) else m₁ z) → News h₀ env.locals h ((I, oI) :: (src ++ news₁)) →
      wpAny (model prog w) A (execs body env) (TurnEnd2 h₀ env.locals (J (i + 1)) ((I, oI) :: src) I { s with heap := h, toks := tk } (fun v s' => Q (.ret v) s')) E { s with heap := h, toks := tk })
    (done : ∀ h' tk m' news', Fr h₀ env.locals h' m' → News h₀ env.locals h' (src ++ news') → J ns.length m' news' → Q .next { s with heap := h', toks := tk }) :
    wpAny (model prog w) A (pyIter (.ref y)) (fun it s₂ => LoopAtV prog w A h₀ env x body Q E it s₂) E s := by
  obtain ⟨h1, h2, h3⟩ := iter_led_ne F N
  have hne : y ≠ s.heap.objs.size := by obtain ⟨o, ho, _⟩ := hl; exact Nat.ne_of_lt (Heap.lt_size ho)
  refine wpAny_pyIter_list hl ?_
  have hit := iter_at (s := s) hl
  have hlen : vs.toArray.size = ns.length := by simp [hi.length]
  have W := Walks.list (prog := prog) (w := w) hh s.heap.objs.size y hne vs.toArray
  rw [hlen] at W
  refine for_my2 (s := { s with heap := s.heap.push { cls := .type "list_iterator", data := .fields #[.ref y, .int 0 0] } }) (src := src) (news := news) (oI := { cls := .type "list_iterator", data := .fields #[.ref y, .int 0 0] }) J W (fun i h st => let ⟨o, ho, _⟩ := st.1; ⟨o, ho⟩) (by simp) hit (F.push _) ?_ ?_ ?_ h1 hJ ?_ ?_
  · intro p hp
    rcases List.mem_cons.mp hp with rfl | q
    · exact ⟨Heap.get?_push_size _ rfl, fun e => h2 e.symm, h3⟩
    · exact ⟨Heap.get?_push_of_some _ (N p q).1, (N p q).2⟩
  · intro b hb
    rcases List.mem_cons.mp hb with rfl | q
    · exact .inl rfl
    · rw [List.mem_singleton.mp q]; exact .inr (.inl hsrc)
  · intro hm
    rcases List.mem_cons.mp hm with e | q
    · exact h2 e
    · obtain ⟨o, ho⟩ := hsrc
      exact (N _ (List.mem_append_left _ ho)).2.1 (List.mem_singleton.mp q).symm
  · intro i v m₁ news₁ h tk oI' hin hPv hJi ha F₁ N₁
    obtain ⟨k, t, rfl, hk⟩ := IntsAre.at hi i v (by simpa using hPv)
    exact turn i k t m₁ news₁ h tk s.heap.objs.size oI' hk (fun p hp => Heap.lt_size (N p hp).1) hJi ha F₁ N₁
  · exact done

/-- a loop over range(n) -/
theorem for_range2 {r : Addr} {t₀ u₀ v₀ : Tok} {n : Nat} {news src : List (Addr × Obj)} {m₀ : Str → Option Value} (J : Nat → (Str → Option Value) → List (Addr × Obj) → Prop)
    (hh : A.handled = none) (hr : IsRange s.heap r 0 (n : Int) 1 t₀ u₀ v₀) (hn : n ≤ 1000) (F : Fr h₀ env.locals s.heap m₀) (N : News h₀ env.locals s.heap (src ++ news)) (hJ : J 0 m₀ news)
    (turn : ∀ i t m₁ news₁ h tk I oI, i < n → (∀ p ∈ src ++ news, p.1 < I) → J i m₁ news₁ → (∀ p ∈ news₁, p.1 ≠ I) → Fr h₀ env.locals h (fun z => if z = x then some (.int (i : Int) t) else m₁ z) → News h₀ env.locals h ((I, oI) :: (src ++ news₁)) →
      wpAny (model prog w) A (execs body env) (TurnEnd2 h₀ env.locals (J (i + 1)) ((I, oI) :: src) I { s with heap := h, toks := tk } (fun v s' => Q (.ret v) s')) E { s with heap := h, toks := tk })
    (done : ∀ h' tk m' news', Fr h₀ env.locals h' m' → News h₀ env.locals h' (src ++ news') → J n m' news' → Q .next { s with heap := h', toks := tk }) :
    wpAny (model prog w) A (pyIter (.ref r)) (fun it s₂ => LoopAtV prog w A h₀ env x body Q E it s₂) E s := by
  obtain ⟨h1, h2, h3⟩ := iter_led_ne F N
  have rs : Builtin.Range.rangeSize 0 (n : Int) 1 = ((n : Nat) : Int) := by have := range_size (b := (n : Int)) (by omega); simpa using this
  refine wpAny_pyIter_range hr (range_small (by omega) (by omega)) ?_
  have W : Walks prog w A s.heap.objs.size [s.heap.objs.size] [s.heap.objs.size] n (fun i v => ∃ t, v = .int (0 + i * 1) t)
      (fun i h => IsRangeIter h s.heap.objs.size (0 + (i : Nat) * 1) ((n : Int) - (i : Nat)) 1) := Walks.range hh _ 0 1 n
  rw [rs]
  refine for_my2 (s := { s with heap := s.heap.push { cls := .type "range_iterator", data := .fields #[rawInt 0, rawInt (n : Int), rawInt 1] } }) (src := src) (news := news) (oI := { cls := .type "range_iterator", data := .fields #[rawInt 0, rawInt (n : Int), rawInt 1] }) J W (fun i h st => ⟨_, st⟩) (by simp) (by show IsRangeIter _ _ _ _ _; simpa using Heap.get?_push_size _ rfl) (F.push _) ?_ ?_ ?_ h1 hJ ?_ ?_
  · intro p hp
    rcases List.mem_cons.mp hp with rfl | q
    · exact ⟨Heap.get?_push_size _ rfl, fun e => h2 e.symm, h3⟩
    · exact ⟨Heap.get?_push_of_some _ (N p q).1, (N p q).2⟩
  · intro b hb
    exact .inl (List.mem_singleton.mp hb)
  · intro hm
    exact h2 (List.mem_singleton.mp hm)
  · rintro i v m₁ news₁ h tk oI' hin ⟨t, rfl⟩ hJi ha F₁ N₁
    have e1 : (0 : Int) + (i : Int) * 1 = (i : Int) := by omega
    rw [e1] at F₁
    exact turn i t m₁ news₁ h tk s.heap.objs.size oI' hin (fun p hp => Heap.lt_size (N p hp).1) hJi ha F₁ N₁
  · exact done
end
end Mine
end

section
open PySem PySem.W PyProof.Rows PySem.Builtin.Frozenset PySem.Calls
set_option Elab.async false
set_option maxRecDepth 100000
set_option maxHeartbeats 4000000
namespace Mine

/-- a set and its plain row -/
structure Bx where
  a : Addr
  dx : Addr
  l : Addr
  p : Addr
  xs : List Int
def Bx.ads (b : Bx) : List Addr := [b.a, b.dx, b.l, b.p]
def adr (B P : Addr) (st : List Bx) : List Addr := B :: P :: st.flatMap Bx.ads

/-- the eleven sets and their plain rows, in the lists at B and P; all apart, and apart from av -/
structure Wd (w : World) (g h : Heap) (av : List Addr) (B P : Addr) (st : List Bx) : Prop where
  births : h.IsList B (st.map fun b => Value.ref b.a).toArray
  plains : h.IsList P (st.map fun b => Value.ref b.p).toArray
  os : ∀ b ∈ st, OSAt w g h b.a b.dx b.l b.xs
  pl : ∀ b ∈ st, ∃ vs n, h.get? b.p = some (PySem.W.listOf vs.toArray n) ∧ IntsAre vs b.xs
  dig : ∀ b ∈ st, Digs b.xs
  sep : (adr B P st).Nodup
  base : ∀ q ∈ adr B P st, g.get? q = none
  off : ∀ q ∈ adr B P st, q ∉ av
  len : st.length = 11

theorem mem_adr {B P : Addr} {st : List Bx} {b : Bx} (hb : b ∈ st) : ∀ q ∈ b.ads, q ∈ adr B P st := fun q hq =>
  .tail _ (.tail _ (List.mem_flatMap.mpr ⟨b, hb, hq⟩))
theorem mem_adr_inv {B P q : Addr} {st : List Bx} (h : q ∈ adr B P st) : q = B ∨ q = P ∨ ∃ b ∈ st, q ∈ b.ads := by
  rcases List.mem_cons.mp h with rfl | h
  · exact .inl rfl
  · rcases List.mem_cons.mp h with rfl | h
    · exact .inr (.inl rfl)
    · exact .inr (.inr (List.mem_flatMap.mp h))

theorem IsList.keep {h h' : Heap} {l : Addr} {items : Array Value} (x : h.IsList l items) (k : ∀ o, h.get? l = some o → h'.get? l = some o) : h'.IsList l items :=
  let ⟨o, e, r⟩ := x; ⟨o, k o e, r⟩

theorem OSAt.loc {w : World} {hb h h' : Heap} {a dx l : Addr} {xs : List Int} (O : OSAt w hb h a dx l xs) (k : ∀ b ∈ [a, dx, l], ∀ o, h.get? b = some o → h'.get? b = some o) : OSAt w hb h' a dx l xs :=
  let ⟨⟨o, vs, n, ha, hl, O', I⟩, hd, b1, b2, b3⟩ := O
  ⟨⟨o, vs, n, k _ (by simp) _ ha, k _ (by simp) _ hl, O', I⟩, k _ (by simp) _ hd, b1, b2, b3⟩

section
variable {w : World} {g h h' : Heap} {av : List Addr} {B P : Addr} {st : List Bx}

theorem Wd.loc (Z : Wd w g h av B P st) (k : ∀ b ∈ adr B P st, ∀ o, h.get? b = some o → h'.get? b = some o) : Wd w g h' av B P st where
  births := IsList.keep Z.births (k B (.head _))
  plains := IsList.keep Z.plains (k P (.tail _ (.head _)))
  os := fun b hb => (Z.os b hb).loc fun q hq => k q (mem_adr hb q (by simp only [Bx.ads, List.mem_cons, List.not_mem_nil, or_false] at hq ⊢; rcases hq with h | h | h <;> simp [h]))
  pl := fun b hb => let ⟨vs, n, e, I⟩ := Z.pl b hb; ⟨vs, n, k _ (mem_adr hb _ (by simp [Bx.ads])) _ e, I⟩
  dig := Z.dig
  sep := Z.sep
  base := Z.base
  off := Z.off
  len := Z.len
theorem Wd.keep (Z : Wd w g h av B P st) (k : KeptBut [] h h') : Wd w g h' av B P st := Z.loc fun b _ o e => k b o (by simp) e
theorem Wd.avoid {av' : List Addr} (Z : Wd w g h av B P st) (k : ∀ q ∈ adr B P st, q ∉ av') : Wd w g h av' B P st :=
  ⟨Z.births, Z.plains, Z.os, Z.pl, Z.dig, Z.sep, Z.base, k, Z.len⟩
theorem Wd.live (Z : Wd w g h av B P st) : ∀ q ∈ adr B P st, ∃ o, h.get? q = some o := by
  intro q hq
  rcases mem_adr_inv hq with rfl | rfl | ⟨b, hb, hq⟩
  · obtain ⟨o, e, _⟩ := Z.births; exact ⟨o, e⟩
  · obtain ⟨o, e, _⟩ := Z.plains; exact ⟨o, e⟩
  · obtain ⟨h1, h2, h3⟩ := (Z.os b hb).live
    obtain ⟨vs, n, e, _⟩ := Z.pl b hb
    simp only [Bx.ads, List.mem_cons, List.not_mem_nil, or_false] at hq
    rcases hq with rfl | rfl | rfl | rfl
    · exact h1
    · exact h2
    · exact h3
    · exact ⟨_, e⟩
end

/-- a part of the ledger that bears what hangs on some addresses -/
def Snap (g : Heap) (L : Addr) (T : List (Addr × Obj)) (bs : List Addr) (H : Heap → Prop) : Prop :=
  (∀ b ∈ bs, ∃ o, (b, o) ∈ T) ∧ (∀ p ∈ T, p.1 ∈ bs) ∧ ∀ h, News g L h T → H h

theorem snap_of {g h : Heap} {L : Addr} {bs : List Addr} {H : Heap → Prop} (live : ∀ b ∈ bs, ∃ o, h.get? b = some o) (off : ∀ b ∈ bs, b ≠ L ∧ g.get? b = none)
    (loc : ∀ h', (∀ b ∈ bs, ∀ o, h.get? b = some o → h'.get? b = some o) → H h') : ∃ T, News g L h T ∧ Snap g L T bs H := by
  refine ⟨bs.filterMap fun b => (h.get? b).map fun o => (b, o), ?_, fun b hb => ?_, fun p hp => ?_, fun h' N => loc h' fun b hb o e => ?_⟩
  · intro p hp
    obtain ⟨b, hb, e⟩ := List.mem_filterMap.mp hp
    obtain ⟨o, ho, rfl⟩ := Option.map_eq_some_iff.mp e
    exact ⟨ho, off b hb⟩
  · obtain ⟨o, ho⟩ := live b hb
    exact ⟨o, List.mem_filterMap.mpr ⟨b, hb, by rw [ho]; rfl⟩⟩
  · obtain ⟨b, hb, e⟩ := List.mem_filterMap.mp hp
    obtain ⟨o, ho, rfl⟩ := Option.map_eq_some_iff.mp e
    exact hb
  · exact (N (b, o) (List.mem_filterMap.mpr ⟨b, hb, by rw [e]; rfl⟩)).1

theorem Wd.snap {w : World} {g h : Heap} {L : Addr} {av : List Addr} {B P : Addr} {st : List Bx} (Z : Wd w g h av B P st) (hL : L ∈ av) : ∃ T, News g L h T ∧ Snap g L T (adr B P st) fun h' => Wd w g h' av B P st :=
  snap_of Z.live (fun b hb => ⟨fun e => Z.off b hb (e ▸ hL), Z.base b hb⟩) fun _ k => Z.loc k

theorem set_get {st : List Bx} {i : Nat} {b b' c : Bx} (hc : c ∈ st.set i b') : c = b' ∨ c ∈ st := by
  rcases List.mem_or_eq_of_mem_set hc with h | h
  · exact .inr h
  · exact .inl h

theorem adr_nodup_ne {B P : Addr} {st : List Bx} (hs : (adr B P st).Nodup) {i j : Nat} {b c : Bx} (hi : st[i]? = some b) (hj : st[j]? = some c) (hij : i ≠ j) : ∀ x ∈ b.ads, x ∉ c.ads := by
  have h2 : (st.flatMap Bx.ads).Nodup := by
    unfold adr at hs
    exact (List.nodup_cons.mp (List.nodup_cons.mp hs).2).2
  have h3 : st.Pairwise fun b c => ∀ x ∈ b.ads, x ∉ c.ads := by
    rw [List.nodup_iff_pairwise_ne, List.pairwise_flatMap] at h2
    exact h2.2.imp fun {b c} h x hx hy => h x hx x hy rfl
  have hi' := List.getElem?_eq_some_iff.mp hi
  have hj' := List.getElem?_eq_some_iff.mp hj
  obtain ⟨li, ei⟩ := hi'
  obtain ⟨lj, ej⟩ := hj'
  rcases Nat.lt_or_gt_of_ne hij with q | q
  · have := List.pairwise_iff_getElem.mp h3 i j li lj q
    rw [ei, ej] at this; exact this
  · have := List.pairwise_iff_getElem.mp h3 j i lj li q
    rw [ei, ej] at this
    exact fun x hx hy => this x hy hx
end Mine
end

section
open PySem PySem.W PyProof.Rows PySem.Builtin.Frozenset PySem.Calls
set_option Elab.async false
set_option maxRecDepth 100000
set_option maxHeartbeats 4000000
namespace Mine

theorem Ct.down {w : World} {s₀ : Shared} {mg mb : Str → Option Value} {hb : Heap} {A A' : Around} {s s' : Shared} {d d' : Nat} {g : Heap} (Y : Ct w s₀ mg mb hb A s d) (C : Cx w s₀ mg mb g) (k : g.StaysIn s'.heap) (hd : A'.depth + d ≤ A.depth + d') (hu : A'.units + d * 8 ≤ A.units + d' * 8) (hh : A'.handled = A.handled) : Ct w s₀ mg mb g A' s' d' :=
  ⟨C, k, by have := Y.depth; omega, by have := Y.units; omega, hh.trans Y.hand⟩
theorem Fam.loc {w : World} {hb s h h' : Heap} {xs : List Int} {ts : List Trip} (Z : Fam w hb s h xs ts) (k : ∀ b ∈ ads ts, ∀ o, h.get? b = some o → h'.get? b = some o) : Fam w hb s h' xs ts :=
  ⟨fun t ht => (Z.os t ht).loc fun q hq => k q (List.mem_flatMap.mpr ⟨t, ht, hq⟩), Z.sep, Z.new⟩
theorem Fam.snap {w : World} {g s h : Heap} {L : Addr} {m : Str → Option Value} {xs : List Int} {ts : List Trip} (Z : Fam w g s h xs ts) (F : Fr g L s m) : ∃ T, News g L h T ∧ Snap g L T (ads ts) fun h' => Fam w g s h' xs ts :=
  snap_of (fun _ hb => Z.live hb) (fun b hb => ⟨ne_none (Z.new b hb) (F.ns.choose_spec.choose_spec.choose_spec.1), stays_none (fun b ob e => F.keep b ob e) (Z.new b hb)⟩) fun _ k => Z.loc k
/-- the plain rows made so far -/
structure PlJ (ws : List Value) (T8 : List (Addr × Obj)) (cs bs : List Addr) (T : List (Addr × Obj)) (ps : List Addr) (ys : List Value) (i : Nat) : Prop where
  vals : ys = ps.map Value.ref
  len : ps.length = i
  at_ : ∀ p ∈ ps, ∃ c, (p, PySem.W.listOf ws.toArray c) ∈ T
  sub : ∀ q ∈ T8, q ∈ T
  off : ∀ p ∈ ps, p ∉ cs ∧ p ∉ bs
  nd : ps.Nodup
theorem plJ_nil {ws : List Value} {T8 : List (Addr × Obj)} {cs bs : List Addr} : PlJ ws T8 cs bs T8 [] [] 0 := ⟨rfl, rfl, by simp, fun _ h => h, by simp, by simp⟩
theorem plJ_add {ws : List Value} {T8 T : List (Addr × Obj)} {cs bs ps : List Addr} {ys : List Value} {i c : Nat} {D : Nat} (J : PlJ ws T8 cs bs T ps ys i) (hb : ∀ b ∈ bs, ∃ o, (b, o) ∈ T8) (hc : ∀ b ∈ cs, @LT.lt Nat _ b D) (l : AllLt D T) :
    PlJ ws T8 cs bs ((D, PySem.W.listOf ws.toArray c) :: T) (ps ++ [D]) (ys ++ [Value.ref D]) (i + 1) := by
  have lt : ∀ p ∈ T, @LT.lt Nat _ p.1 D := tb_ltOf l
  refine ⟨by rw [J.vals]; simp, by simp [J.len], fun p hp => ?_, fun q hq => .tail _ (J.sub q hq), fun p hp => ?_, ?_⟩
  · rcases List.mem_append.mp hp with h | h
    · obtain ⟨c, e⟩ := J.at_ p h; exact ⟨c, .tail _ e⟩
    · rw [List.mem_singleton.mp h]; exact ⟨c, .head _⟩
  · rcases List.mem_append.mp hp with h | h
    · exact J.off p h
    · rw [List.mem_singleton.mp h]
      refine ⟨fun q => Nat.lt_irrefl _ (hc _ q), fun q => ?_⟩
      obtain ⟨o, e⟩ := hb _ q
      exact Nat.lt_irrefl _ (lt _ (J.sub _ e))
  · refine List.nodup_append.mpr ⟨J.nd, by simp, fun a ha b hb e => ?_⟩
    rw [List.mem_singleton] at hb
    obtain ⟨c, e2⟩ := J.at_ a ha
    have := lt _ e2
    rw [e, hb] at this
    exact Nat.lt_irrefl _ this
theorem item_L {prog : Program} {w : World} {A : Around} {E : Value → Shared → Prop} {s : Shared} {value slice : Expr} {l : Addr} {items : Array Value} {k : Int} {t : Tok} {x : Value} {Q : Value → Shared → Prop} (hl : s.heap.IsList l items)
    (h0 : 0 ≤ k) (hfit : k < 2 ^ 63) (hx : items[k.toNat]? = some x) (h : Q x s)
    (hs : subscripted slice false (.ref l) (.int k t) = operate [.ref l, .int k t] (getItem (.ref l) (.int k t)) := by with_unfolding_all rfl) :
    wpAny (model prog w) A (subscriptTail value slice (.ref l) (.int k t)) Q E s :=
  tail_any hl.typeIs slot_list_getitem.lookup (wpAny_getItem_list hl h0 hfit hx h) hs
theorem adr_perm (B P : Addr) (l1 l2 : List Bx) (b : Bx) : (adr B P (l1 ++ b :: l2)).Perm ((B :: P :: (l1.flatMap Bx.ads ++ l2.flatMap Bx.ads)) ++ b.ads) := by
  unfold adr
  rw [List.flatMap_append, List.flatMap_cons]
  simp only [List.cons_append]
  refine List.Perm.cons _ (List.Perm.cons _ ?_)
  rw [List.append_assoc]
  exact List.Perm.append_left _ List.perm_append_comm

theorem split_at {st : List Bx} {i : Nat} {b : Bx} (hi : st[i]? = some b) : st = st.take i ++ b :: st.drop (i + 1) := by
  obtain ⟨h1, h2⟩ := List.getElem?_eq_some_iff.mp hi
  rw [← h2, List.getElem_cons_drop]
  exact (List.take_append_drop i st).symm

theorem Wd.step {w : World} {g h h6 h7 h8 : Heap} {av : List Addr} {B P l' D : Addr} {st : List Bx} {i : Nat} {b : Bx} {xs' : List Int} {vs : List Value} {n : Nat}
    (Z : Wd w g h av B P st) (hi : st[i]? = some b) (hav : ∀ q ∈ av, ∃ o, h.get? q = some o) (hg : g.StaysIn h)
    (k6 : KeptBut [b.a, b.l] h h6) (O6 : OSAt w g h6 b.a b.dx l' xs') (hl' : l' = b.l ∨ h.get? l' = none)
    (k7 : KeptBut [] h6 h7) (nD : h6.get? D = none) (eD : h7.get? D = some (PySem.W.listOf vs.toArray n)) (I : IntsAre vs xs')
    (k8 : KeptBut [P] h7 h8) (eP : h8.IsList P ((st.map fun b => Value.ref b.p).toArray.setIfInBounds i (.ref D))) (hd : Digs xs') :
    Wd w g h8 av B P (st.set i ⟨b.a, b.dx, l', D, xs'⟩) := by
  have hb : b ∈ st := List.mem_of_getElem? hi
  have hlt : i < st.length := (List.getElem?_eq_some_iff.mp hi).1
  have hset : st.set i ⟨b.a, b.dx, l', D, xs'⟩ = st.take i ++ ⟨b.a, b.dx, l', D, xs'⟩ :: st.drop (i + 1) := by
    rw [List.set_eq_take_append_cons_drop, if_pos hlt]
  have hst := split_at hi
  have sepP := (adr_perm B P (st.take i) (st.drop (i + 1)) b)
  rw [← hst] at sepP
  have sepP' := (adr_perm B P (st.take i) (st.drop (i + 1)) ⟨b.a, b.dx, l', D, xs'⟩)
  rw [← hset] at sepP'
  have hX : ∀ q ∈ B :: P :: ((st.take i).flatMap Bx.ads ++ (st.drop (i + 1)).flatMap Bx.ads), q ∈ adr B P st := fun q hq => sepP.mem_iff.mpr (List.mem_append_left _ hq)
  have sep0 := sepP.nodup_iff.mp Z.sep
  obtain ⟨n1, n2, n3⟩ := List.nodup_append.mp sep0
  generalize hXe : B :: P :: ((st.take i).flatMap Bx.ads ++ (st.drop (i + 1)).flatMap Bx.ads) = X at *
  have offb : ∀ q ∈ X, q ∉ b.ads := fun q hq h => n3 q hq q h rfl
  have offa : ∀ q ∈ X, q ≠ b.a ∧ q ≠ b.l := fun q hq => ⟨fun e => offb q hq (by simp [Bx.ads, e]), fun e => offb q hq (by simp [Bx.ads, e])⟩
  have liveX : ∀ q ∈ X, ∃ o, h6.get? q = some o := fun q hq => by
    obtain ⟨o, e⟩ := Z.live q (hX q hq)
    exact ⟨o, k6 _ _ (by simp; exact offa q hq) e⟩
  obtain ⟨lv1, lv2, lv3⟩ := O6.live
  have freshD : ∀ q, (∃ o, h6.get? q = some o) → q ≠ D := fun q ⟨o, e⟩ h => by rw [h, nD] at e; cases e
  have hl3 : ∀ q ∈ X, q ≠ l' := fun q hq e => by
    rcases hl' with r | r
    · exact (offa q hq).2 (e.trans r)
    · obtain ⟨o, e2⟩ := Z.live q (hX q hq)
      rw [e, r] at e2; cases e2
  obtain ⟨d1, d2, d3⟩ := O6.ne
  have hP : P ∈ X := by rw [← hXe]; simp
  have hBX : B ∈ X := by rw [← hXe]; simp
  have hBP : B ≠ P := by
    have := Z.sep
    unfold adr at this
    exact fun e => (List.nodup_cons.mp this).1 (by rw [e]; simp)
  have hPa : ∀ q ∈ b.ads, q ≠ P := fun q hq e => offb P hP (e ▸ hq)
  have mem_set : ∀ c ∈ st.set i ⟨b.a, b.dx, l', D, xs'⟩, c = ⟨b.a, b.dx, l', D, xs'⟩ ∨ (c ∈ st ∧ ∀ q ∈ c.ads, q ∈ X) := fun c hc => by
    rw [hset] at hc
    rcases List.mem_append.mp hc with r | r
    · refine .inr ⟨List.mem_of_mem_take r, fun q hq => ?_⟩
      rw [← hXe]
      exact .tail _ (.tail _ (List.mem_append_left _ (List.mem_flatMap.mpr ⟨c, r, hq⟩)))
    · rcases List.mem_cons.mp r with r | r
      · exact .inl r
      · refine .inr ⟨List.mem_of_mem_drop r, fun q hq => ?_⟩
        rw [← hXe]
        exact .tail _ (.tail _ (List.mem_append_right _ (List.mem_flatMap.mpr ⟨c, r, hq⟩)))
  have keep : ∀ q ∈ X, q ≠ P → ∀ o, h.get? q = some o → h8.get? q = some o := fun q hq hqP o e =>
    k8 _ _ (by simpa using hqP) (k7 _ _ (by simp) (k6 _ _ (by simp; exact offa q hq) e))
  have keep6 : ∀ q, q ≠ P → ∀ o, h6.get? q = some o → h8.get? q = some o := fun q hqP o e => k8 _ _ (by simpa using hqP) (k7 _ _ (by simp) e)
  have neP : ∀ c ∈ st, ∀ q ∈ c.ads, q ≠ P := fun c hc q hq e => by
    have h1 := Z.sep
    unfold adr at h1
    exact (List.nodup_cons.mp (List.nodup_cons.mp h1).2).1 (List.mem_flatMap.mpr ⟨c, hc, e ▸ hq⟩)
  have lP : l' ≠ P := fun e => hl3 P hP e.symm
  have DP : D ≠ P := fun e => freshD P (liveX P hP) e.symm
  refine ⟨?_, ?_, fun c hc => ?_, fun c hc => ?_, fun c hc => ?_, ?_, fun q hq => ?_, fun q hq => ?_, ?_⟩
  · have e : (st.set i ⟨b.a, b.dx, l', D, xs'⟩).map (fun b => Value.ref b.a) = st.map fun b => Value.ref b.a := by
      rw [hset]
      conv => rhs; rw [hst]
      simp
    rw [e]
    exact IsList.keep Z.births (keep B hBX hBP)
  · have e : (st.set i ⟨b.a, b.dx, l', D, xs'⟩).map (fun b => Value.ref b.p) = (st.map fun b => Value.ref b.p).set i (Value.ref D) := by
      rw [List.map_set]
    rw [e]
    simpa using eP
  · rcases mem_set c hc with rfl | ⟨hc, hq⟩
    · refine O6.loc fun q hq o e => keep6 q ?_ o e
      simp only [List.mem_cons, List.not_mem_nil, or_false] at hq
      rcases hq with rfl | rfl | rfl
      · exact hPa _ (by simp [Bx.ads])
      · exact hPa _ (by simp [Bx.ads])
      · exact lP
    · refine (Z.os c hc).loc fun q hq' o e => ?_
      have hq2 : q ∈ c.ads := by
        simp only [Bx.ads, List.mem_cons, List.not_mem_nil, or_false] at hq' ⊢
        rcases hq' with h | h | h <;> simp [h]
      exact keep q (hq q hq2) (neP c hc q hq2) o e
  · rcases mem_set c hc with rfl | ⟨hc, hq⟩
    · exact ⟨vs, n, k8 _ _ (by simpa using DP) eD, I⟩
    · obtain ⟨us, m, e, J⟩ := Z.pl c hc
      have hq2 : c.p ∈ c.ads := by simp [Bx.ads]
      exact ⟨us, m, keep c.p (hq _ hq2) (neP c hc _ hq2) _ e, J⟩
  · rcases mem_set c hc with rfl | ⟨hc, _⟩
    · exact hd
    · exact Z.dig c hc
  · rw [sepP'.nodup_iff]
    refine List.nodup_append.mpr ⟨n1, ?_, fun q hq r hr e => ?_⟩
    · simp only [Bx.ads, List.nodup_cons, List.mem_cons, List.not_mem_nil, or_false, not_or, not_false_eq_true, List.nodup_nil, and_true]
      exact ⟨⟨d1, d2, freshD _ lv1⟩, ⟨d3, freshD _ lv2⟩, freshD _ lv3⟩
    · subst e
      simp only [Bx.ads, List.mem_cons, List.not_mem_nil, or_false] at hr
      rcases hr with r | r | r | r
      · exact (offa q hq).1 r
      · exact offb q hq (by simp [Bx.ads, r])
      · exact hl3 q hq r
      · exact freshD q (liveX q hq) r
  · rcases List.mem_append.mp (sepP'.mem_iff.mp hq) with r | r
    · exact Z.base q (hX q r)
    · simp only [Bx.ads, List.mem_cons, List.not_mem_nil, or_false] at r
      rcases r with rfl | rfl | rfl | rfl
      · exact O6.ba
      · exact O6.bd
      · exact O6.bl
      · exact stays_none (fun b' o e => k6 b' o (by
          have h1 := Z.base b.a (mem_adr hb _ (by simp [Bx.ads]))
          have h2 := Z.base b.l (mem_adr hb _ (by simp [Bx.ads]))
          simp; exact ⟨fun h => (by rw [h, h1] at e; cases e), fun h => (by rw [h, h2] at e; cases e)⟩) (hg _ _ e)) nD
  · rcases List.mem_append.mp (sepP'.mem_iff.mp hq) with r | r
    · exact Z.off q (hX q r)
    · have ofb : ∀ q ∈ b.ads, q ∉ av := fun q hq => Z.off q (mem_adr hb q hq)
      simp only [Bx.ads, List.mem_cons, List.not_mem_nil, or_false] at r
      rcases r with rfl | rfl | rfl | rfl
      · exact ofb _ (by simp [Bx.ads])
      · exact ofb _ (by simp [Bx.ads])
      · intro h1
        rcases hl' with r | r
        · exact ofb b.l (by simp [Bx.ads]) (r ▸ h1)
        · obtain ⟨o, e⟩ := hav _ h1
          rw [r] at e; cases e
      · intro h1
        obtain ⟨o, e⟩ := hav _ h1
        have : h6.get? q = some o := k6 _ _ (by simp; exact ⟨fun h => ofb b.a (by simp [Bx.ads]) (h ▸ h1), fun h => ofb b.l (by simp [Bx.ads]) (h ▸ h1)⟩) e
        rw [nD] at this; cases this
  · rw [List.length_set]; exact Z.len
end Mine
end

section
open PySem PySem.W PyProof.Rows PySem.Builtin.Frozenset PySem.Calls
set_option Elab.async false
set_option maxRecDepth 100000
set_option maxHeartbeats 4000000
namespace Mine

def mkBx (row : List Int) (t : Trip) (p : Addr) : Bx := ⟨t.1, t.2.1, t.2.2, p, row⟩
theorem zip_mem {row : List Int} : ∀ {ts : List Trip} {ps : List Addr} {b : Bx}, b ∈ List.zipWith (mkBx row) ts ps → ∃ t ∈ ts, ∃ p ∈ ps, b = mkBx row t p
  | [], _, _, h => by simp at h
  | _ :: _, [], _, h => by simp at h
  | t :: ts, p :: ps, b, h => by
    rw [List.zipWith_cons_cons] at h
    rcases List.mem_cons.mp h with rfl | h
    · exact ⟨t, .head _, p, .head _, rfl⟩
    · obtain ⟨t', ht, p', hp, e⟩ := zip_mem h
      exact ⟨t', .tail _ ht, p', .tail _ hp, e⟩
theorem zip_perm {row : List Int} : ∀ {ts : List Trip} {ps : List Addr}, ts.length = ps.length → ((List.zipWith (mkBx row) ts ps).flatMap Bx.ads).Perm (ads ts ++ ps)
  | [], [], _ => by simp [ads]
  | [], _ :: _, h => by simp at h
  | _ :: _, [], h => by simp at h
  | t :: ts, p :: ps, h => by
    have ih := zip_perm (row := row) (ts := ts) (ps := ps) (by simpa using h)
    rw [List.zipWith_cons_cons, List.flatMap_cons]
    have e1 : (mkBx row t p).ads = [t.1, t.2.1, t.2.2] ++ [p] := rfl
    have e2 : ads (t :: ts) = [t.1, t.2.1, t.2.2] ++ ads ts := rfl
    rw [e1, e2, List.append_assoc, List.append_assoc]
    refine List.Perm.append_left _ ?_
    refine (List.Perm.append_left [p] ih).trans ?_
    exact (List.perm_middle (l₁ := ads ts) (l₂ := ps) (a := p)).symm
theorem zip_map_a {row : List Int} : ∀ {ts : List Trip} {ps : List Addr}, ts.length = ps.length → (List.zipWith (mkBx row) ts ps).map (fun b => Value.ref b.a) = ts.map fun t => Value.ref t.1
  | [], [], _ => rfl
  | [], _ :: _, h => by simp at h
  | _ :: _, [], h => by simp at h
  | t :: ts, p :: ps, h => by
    rw [List.zipWith_cons_cons, List.map_cons, zip_map_a (by simpa using h)]; rfl
theorem zip_map_p {row : List Int} : ∀ {ts : List Trip} {ps : List Addr}, ts.length = ps.length → (List.zipWith (mkBx row) ts ps).map (fun b => Value.ref b.p) = ps.map Value.ref
  | [], [], _ => rfl
  | [], _ :: _, h => by simp at h
  | _ :: _, [], h => by simp at h
  | t :: ts, p :: ps, h => by
    rw [List.zipWith_cons_cons, List.map_cons, zip_map_p (by simpa using h)]; rfl

theorem off1_mem {D : Addr} : ∀ {l : List (Addr × Obj)}, LCg.Off1 D l → ∀ p ∈ l, p.1 ≠ D
  | [], _, _, h => nomatch h
  | _ :: _, x, p, h => by
    rcases List.mem_cons.mp h with rfl | h
    · exact x.1
    · exact off1_mem x.2 p h
theorem live_off {h : Heap} {b : Addr} {av : List Addr} (n : h.get? b = none) (live : ∀ q ∈ av, ∃ o, h.get? q = some o) : b ∉ av := fun hm => by
  obtain ⟨o, e⟩ := live b hm
  rw [n] at e; cases e

theorem live_all {g h : Heap} {L : Addr} {m : Str → Option Value} {X : List (Addr × Obj)} (F : Fr g L h m) (N : News g L h X) : ∀ q ∈ L :: X.map (·.1), ∃ o, h.get? q = some o := fun q hq => by
  rcases List.mem_cons.mp hq with rfl | hq
  · exact ⟨_, F.ns.choose_spec.choose_spec.choose_spec.1⟩
  · obtain ⟨p, hp, rfl⟩ := List.mem_map.mp hq
    exact ⟨_, (N p hp).1⟩
theorem not_ins {b L D : Addr} {av : List Addr} (h1 : b ∉ L :: av) (h2 : b ≠ D) : b ∉ L :: D :: av := fun h => by
  rcases List.mem_cons.mp h with h | h
  · exact h1 (h ▸ .head _)
  · rcases List.mem_cons.mp h with h | h
    · exact h2 h
    · exact h1 (.tail _ h)
theorem snap_ins {w : World} {g : Heap} {L B P I : Addr} {T : List (Addr × Obj)} {st : List Bx} {av : List Addr} (S : Snap g L T (adr B P st) fun h => Wd w g h (L :: av) B P st) (hne : ∀ p ∈ T, p.1 ≠ I) : Snap g L T (adr B P st) fun h => Wd w g h (L :: I :: av) B P st :=
  ⟨S.1, S.2.1, fun h N => have Z := S.2.2 h N; Z.avoid fun q hq => not_ins (Z.off q hq) (let ⟨_, e⟩ := S.1 q hq; hne _ e)⟩
theorem Wd.del {w : World} {g h : Heap} {L B P I : Addr} {st : List Bx} {av : List Addr} (Z : Wd w g h (L :: I :: av) B P st) : Wd w g h (L :: av) B P st :=
  Z.avoid fun q hq hm => Z.off q hq (by rcases List.mem_cons.mp hm with e | e; exact e ▸ .head _; exact .tail _ (.tail _ e))
theorem Wd.pl_ne {w : World} {g h : Heap} {B P : Addr} {st : List Bx} {av : List Addr} {b : Bx} (Z : Wd w g h av B P st) (hb : b ∈ st) : b.p ≠ b.l ∧ b.p ≠ b.a ∧ b.p ≠ P ∧ b.a ≠ P ∧ b.l ≠ P ∧ b.a ≠ B ∧ b.l ≠ B := by
  have h1 := Z.sep
  unfold adr at h1
  have hB := (List.nodup_cons.mp h1).1
  have hP := (List.nodup_cons.mp (List.nodup_cons.mp h1).2).1
  have h2 := (List.nodup_cons.mp (List.nodup_cons.mp h1).2).2
  obtain ⟨l1, l2, e⟩ := List.append_of_mem hb
  have inB : ∀ q ∈ b.ads, q ∈ st.flatMap Bx.ads := fun q hq => List.mem_flatMap.mpr ⟨b, hb, hq⟩
  have h3 : b.ads.Nodup := by
    rw [e, List.flatMap_append, List.flatMap_cons] at h2
    exact (List.nodup_append.mp (List.nodup_append.mp h2).2.1).1
  simp only [Bx.ads, List.nodup_cons, List.mem_cons, List.not_mem_nil, or_false, not_or] at h3
  refine ⟨fun e => h3.2.2.1 e.symm, fun e => h3.1.2.2 e.symm, fun e => hP (e ▸ inB _ (by simp [Bx.ads])), fun e => hP (e ▸ inB _ (by simp [Bx.ads])), fun e => hP (e ▸ inB _ (by simp [Bx.ads])), fun e => hB (.tail _ (e ▸ inB _ (by simp [Bx.ads]))), fun e => hB (.tail _ (e ▸ inB _ (by simp [Bx.ads])))⟩
theorem Wd.frame {w : World} {g h h1 h' : Heap} {L B P : Addr} {m : Str → Option Value} {st : List Bx} {av W : List Addr} (Z : Wd w g h (L :: av) B P st) (F : Fr g L h1 m) (k : KeptBut W h1 h') (hW : ∀ q ∈ W, q ∈ adr B P st) : Fr g L h' m :=
  fr_kept F k (fun q => Z.off _ (hW _ q) (.head _)) fun b hb => Z.base b (hW b hb)
theorem Wd.news {w : World} {g h h1 h' : Heap} {L B P : Addr} {X : List (Addr × Obj)} {st : List Bx} {av W : List Addr} (Z : Wd w g h (L :: av) B P st) (N : News g L h1 X) (k : KeptBut W h1 h') (hW : ∀ q ∈ W, q ∈ adr B P st) (e : X.map (·.1) = av) : News g L h' X :=
  news_keptW N k fun p hp q => Z.off _ (hW _ q) (.tail _ (e ▸ List.mem_map_of_mem hp))
theorem Bx.two {B P : Addr} {st : List Bx} {b : Bx} (hb : b ∈ st) : ∀ q ∈ [b.a, b.l], q ∈ adr B P st := fun q hq => mem_adr hb q (by
  simp only [Bx.ads, List.mem_cons, List.not_mem_nil, or_false] at hq ⊢
  rcases hq with h | h <;> simp [h])
theorem adr_P {B P : Addr} {st : List Bx} : ∀ q ∈ [P], q ∈ adr B P st := fun q hq => by
  rw [List.mem_singleton.mp hq]; exact .tail _ (.head _)
theorem snap_del {w : World} {g : Heap} {L B P I : Addr} {T : List (Addr × Obj)} {st : List Bx} {av : List Addr} (S : Snap g L T (adr B P st) fun h => Wd w g h (L :: I :: av) B P st) : Snap g L T (adr B P st) fun h => Wd w g h (L :: av) B P st :=
  ⟨S.1, S.2.1, fun h N => (S.2.2 h N).del⟩
theorem snap_ne {w : World} {g h : Heap} {L B P I : Addr} {T : List (Addr × Obj)} {st : List Bx} {av : List Addr} {H : Heap → Prop} (S : Snap g L T (adr B P st) H) (Z : Wd w g h (L :: I :: av) B P st) : ∀ p ∈ T, p.1 ≠ I := fun p hp e =>
  Z.off _ (S.2.1 p hp) (e ▸ .tail _ (.head _))
theorem ne_self {prog : Program} {w : World} {A : Around} {E : Value → Shared → Prop} {s : Shared} {a b : Addr} {vs us : List Value} {ns : List Int} {Q : Value → Shared → Prop} (hl : s.heap.IsList a vs.toArray) (hi : IntsAre vs ns) (hl' : s.heap.IsList b us.toArray) (hi' : IntsAre us ns) (hu : A.units + 64 < cLine)
    (h : Q (.bool false) s) : wpAny (model prog w) A (compareOp .NotEq (.ref a) (.ref b)) Q E s := ne_intsK hl hi hl' hi' hu (by rw [decide_eq_true rfl]; exact h)
theorem eq_self {prog : Program} {w : World} {A : Around} {E : Value → Shared → Prop} {s : Shared} {a b : Addr} {vs us : List Value} {ns ms : List Int} {Q : Value → Shared → Prop} (hl : s.heap.IsList a vs.toArray) (hi : IntsAre vs ns) (hl' : s.heap.IsList b us.toArray) (hi' : IntsAre us ms) (e : ns = ms) (hu : A.units + 64 < cLine)
    (h : Q (.bool true) s) : wpAny (model prog w) A (compareOp .Eq (.ref a) (.ref b)) Q E s := eq_intsK hl hi hl' hi' hu (by rw [decide_eq_true e]; exact h)
theorem in_yes {w : World} {A : Around} {E : Value → Shared → Prop} {s : Shared} {h₀ : Heap} {L a dx l : Addr} {m : Str → Option Value} {news : List (Addr × Obj)} {o : Obj} {xs : List Int} {k : Int} {tk : Tok} {Q : Value → Shared → Prop} (F : Fr h₀ L s.heap m) (X₀ : (hd.heap_39 w.params).In h₀) (N : News h₀ L s.heap news) (h1 : (a, o) ∈ news) (O : OSet w o dx l xs) (hb : xs.length < scanBound) (hk : k ∈ xs)
    (h : Q (.bool true) { s with toks := s.toks + 1 }) : wpAny (model PySem.Challenge.rw_ep5040_01.row.prog w) A (compareOp .In (.int k tk) (.ref a)) Q E s := in_N F X₀ N h1 O hb (by rw [decide_eq_true hk]; exact h)
theorem notin_yes {w : World} {A : Around} {E : Value → Shared → Prop} {s : Shared} {h₀ : Heap} {L a dx l : Addr} {m : Str → Option Value} {news : List (Addr × Obj)} {o : Obj} {xs : List Int} {k : Int} {tk : Tok} {Q : Value → Shared → Prop} (F : Fr h₀ L s.heap m) (X₀ : (hd.heap_39 w.params).In h₀) (N : News h₀ L s.heap news) (h1 : (a, o) ∈ news) (O : OSet w o dx l xs) (hb : xs.length < scanBound) (hk : k ∉ xs)
    (h : Q (.bool true) { s with toks := s.toks + 1 }) : wpAny (model PySem.Challenge.rw_ep5040_01.row.prog w) A (compareOp .NotIn (.int k tk) (.ref a)) Q E s := notin_N F X₀ N h1 O hb (by rw [decide_eq_false hk]; exact h)
theorem wd_start {w : World} {g s0 h : Heap} {L' B P : Addr} {av cs : List Addr} {T8 T : List (Addr × Obj)} {ts : List Trip} {ps : List Addr} {ws ys : List Value} {row : List Int} (NT : News g L' h T) (Z : Fam w g s0 h row ts) (J : PlJ ws T8 cs (ads ts) T ps ys 11) (hS : ∀ b ∈ ads ts, ∃ o, (b, o) ∈ T8) (lts : ts.length = 11)
    (hB : h.IsList B (ts.map fun t => Value.ref t.1).toArray) (hP : h.IsList P ys.toArray) (I : IntsAre ws row) (hd : Digs row)
    (hBa : B ∉ ads ts) (hBp : B ∉ ps) (hPT : ∀ p ∈ T, p.1 ≠ P) (hBP : B ≠ P) (gB : g.get? B = none) (gP : g.get? P = none) (oB : B ∉ av) (oP : P ∉ av) (oA : ∀ b ∈ ads ts, b ∉ av) (oPs : ∀ p ∈ ps, p ∉ av) :
    Wd w g h av B P (List.zipWith (mkBx row) ts ps) := by
  have hlen : ts.length = ps.length := by rw [lts, J.len]
  have pm := zip_perm (row := row) hlen
  have inT : ∀ b ∈ ads ts ++ ps, ∃ o, (b, o) ∈ T := fun b hb => by
    rcases List.mem_append.mp hb with h | h
    · obtain ⟨o, e⟩ := hS b h; exact ⟨o, J.sub _ e⟩
    · obtain ⟨c, e⟩ := J.at_ b h; exact ⟨_, e⟩
  have hPa : P ∉ ads ts ++ ps := fun hm => by
    obtain ⟨o, e⟩ := inT P hm
    exact hPT _ e rfl
  have mem : ∀ q ∈ adr B P (List.zipWith (mkBx row) ts ps), q = B ∨ q = P ∨ q ∈ ads ts ∨ q ∈ ps := fun q hq => by
    rcases List.mem_cons.mp hq with h | hq
    · exact .inl h
    · rcases List.mem_cons.mp hq with h | hq
      · exact .inr (.inl h)
      · exact .inr (.inr (List.mem_append.mp (pm.mem_iff.mp hq)))
  refine ⟨?_, ?_, fun b hb => ?_, fun b hb => ?_, fun b hb => ?_, ?_, fun q hq => ?_, fun q hq => ?_, ?_⟩
  · rw [zip_map_a hlen]; exact hB
  · rw [zip_map_p hlen, ← J.vals]; exact hP
  · obtain ⟨t, ht, p, hp, rfl⟩ := zip_mem hb
    exact Z.os t ht
  · obtain ⟨t, ht, p, hp, rfl⟩ := zip_mem hb
    obtain ⟨c, e⟩ := J.at_ p hp
    exact ⟨ws, c, (NT _ e).1, I⟩
  · obtain ⟨t, ht, p, hp, rfl⟩ := zip_mem hb
    exact hd
  · unfold adr
    rw [List.nodup_cons, List.nodup_cons, pm.nodup_iff]
    refine ⟨?_, fun h => hPa (pm.mem_iff.mp h), List.nodup_append.mpr ⟨Z.sep, J.nd, fun a ha b hb e => (J.off b hb).2 (e ▸ ha)⟩⟩
    intro h
    rcases List.mem_cons.mp h with h | h
    · exact hBP h
    · rcases List.mem_append.mp (pm.mem_iff.mp h) with h | h
      · exact hBa h
      · exact hBp h
  · rcases mem q hq with rfl | rfl | h | h
    · exact gB
    · exact gP
    · obtain ⟨o, e⟩ := inT q (List.mem_append_left _ h); exact (NT _ e).2.2
    · obtain ⟨o, e⟩ := inT q (List.mem_append_right _ h); exact (NT _ e).2.2
  · rcases mem q hq with rfl | rfl | h | h
    · exact oB
    · exact oP
    · exact oA q h
    · exact oPs q h
  · rw [List.length_zipWith, ← hlen, lts]; rfl
end Mine
end

section
open PySem PySem.W PyProof.Rows PySem.Builtin.Frozenset PySem.Calls
set_option Elab.async false
set_option maxRecDepth 100000
set_option maxHeartbeats 4000000
namespace Mine

/-- what a loop leaves of the names -/
def MapAt (x : Str) (stored : List Str) (u m₀ : Str → Option Value) : Str → Option Value := fun z => if z = x then u z else if stored.contains z = true then u z else m₀ z

def TurnEnd3 (h₀ : Heap) (L : Addr) (J : List (Addr × Obj) → Prop) (fx : List (Addr × Obj)) (I : Addr) (x : Str) (stored : List Str) (m₀ : Str → Option Value) (s₁ : Shared) (Qr : Value → Shared → Prop) (f : Flow) (s' : Shared) : Prop :=
  match f with
  | .ret v => Qr v s'
  | .brk => False
  | _ => ∃ h' tk' m' news', s' = { s₁ with heap := h', toks := tk' } ∧ Fr h₀ L h' m' ∧ News h₀ L h' (fx ++ news') ∧ (∀ p ∈ news', p.1 ≠ I) ∧ (∀ z, z ≠ x → stored.contains z = false → m' z = m₀ z) ∧ J news'

theorem TurnEnd3.next {h₀ : Heap} {L I : Addr} {J : List (Addr × Obj) → Prop} {fx : List (Addr × Obj)} {x : Str} {stored : List Str} {m₀ : Str → Option Value} {s₁ : Shared} {Qr : Value → Shared → Prop} {h' : Heap} {tk' : Nat} {m' : Str → Option Value} {news' : List (Addr × Obj)}
    (F : Fr h₀ L h' m') (N : News h₀ L h' (fx ++ news')) (ha : ∀ p ∈ news', p.1 ≠ I) (hm : ∀ z, z ≠ x → stored.contains z = false → m' z = m₀ z) (hJ : J news') : TurnEnd3 h₀ L J fx I x stored m₀ s₁ Qr .next { s₁ with heap := h', toks := tk' } := ⟨h', tk', m', news', rfl, F, N, ha, hm, hJ⟩

theorem map_put {x : Str} {stored : List Str} {m m₀ : Str → Option Value} {v : Value} (h : ∀ z, z ≠ x → stored.contains z = false → m z = m₀ z) :
    (fun z => if z = x then some v else m z) = fun z => if z = x then some v else if stored.contains z = true then m z else m₀ z := by
  funext z
  by_cases e : z = x
  · rw [if_pos e, if_pos e]
  · rw [if_neg e, if_neg e]
    by_cases c : stored.contains z = true
    · rw [if_pos c]
    · rw [if_neg c]; exact h z e (by simpa using c)
theorem map_keep {x : Str} {stored : List Str} {u m₀ : Str → Option Value} {v : Option Value} : ∀ z, z ≠ x → stored.contains z = false → (fun z => if z = x then v else if stored.contains z = true then u z else m₀ z) z = m₀ z := fun z h1 h2 => by
  show (if z = x then v else if stored.contains z = true then u z else m₀ z) = m₀ z
  rw [if_neg h1, if_neg (by rw [h2]; exact Bool.false_ne_true)]
theorem keep1 {z x : Str} {stored : List Str} {v u m : Option Value} (h1 : z ≠ x) (h2 : stored.contains z = false) : (if z = x then v else if stored.contains z = true then u else m) = m := by
  rw [if_neg h1, if_neg (by rw [h2]; exact Bool.false_ne_true)]
theorem map_left {x : Str} {stored : List Str} {m m₀ : Str → Option Value} (h : ∀ z, z ≠ x → stored.contains z = false → m z = m₀ z) : m = fun z => if z = x then m z else if stored.contains z = true then m z else m₀ z := by
  funext z
  by_cases e : z = x
  · rw [if_pos e]
  · rw [if_neg e]
    by_cases c : stored.contains z = true
    · rw [if_pos c]
    · rw [if_neg c]; exact h z e (by simpa using c)

section
variable {prog : Program} {w : World} {A : Around} {E : Value → Shared → Prop} {s : Shared} {env : Env} {h₀ : Heap} {x : Str} {body : List Stmt} {Q : Flow → Shared → Prop}

theorem for_list3 {y : Addr} {vs : List Value} {ns : List Int} {news src : List (Addr × Obj)} {m₀ : Str → Option Value} (stored : List Str) (J : Nat → List (Addr × Obj) → Prop)
    (hh : A.handled = none) (hl : s.heap.IsList y vs.toArray) (hi : IntsAre vs ns) (F : Fr h₀ env.locals s.heap m₀) (N : News h₀ env.locals s.heap (src ++ news)) (hsrc : ∃ o, (y, o) ∈ src) (hJ : J 0 news)
    (turn : ∀ i n t (u : Str → Option Value) news₁ h tk I oI, ns[i]? = some n → (∀ p ∈ src ++ news, p.1 < I) → J i news₁ → (∀ p ∈ news₁, p.1 ≠ I) → Fr h₀ env.locals h (fun z => if z = x then some (.int n t) else if stored.contains z = true then u z else m₀ z) → News h₀ env.locals h ((I, oI) :: (src ++ news₁)) →
      wpAny (model prog w) A (execs body env) (TurnEnd3 h₀ env.locals (J (i + 1)) ((I, oI) :: src) I x stored m₀ { s with heap := h, toks := tk } (fun v s' => Q (.ret v) s')) E { s with heap := h, toks := tk })
    (done : ∀ h' tk (u : Str → Option Value) news', Fr h₀ env.locals h' (fun z => if z = x then u z else if stored.contains z = true then u z else m₀ z) → News h₀ env.locals h' (src ++ news') → J ns.length news' → Q .next { s with heap := h', toks := tk }) :
    wpAny (model prog w) A (pyIter (.ref y)) (fun it s₂ => LoopAtV prog w A h₀ env x body Q E it s₂) E s := by
  refine for_list2 (fun i m nx => (∀ z, z ≠ x → stored.contains z = false → m z = m₀ z) ∧ J i nx) hh hl hi F N hsrc ⟨fun _ _ _ => rfl, hJ⟩ ?_ ?_
  · rintro i n t m₁ news₁ h tk I oI hn hlt ⟨hm, hJi⟩ hne F₁ N₁
    rw [map_put hm] at F₁
    refine wpAny_mono (turn i n t m₁ news₁ h tk I oI hn hlt hJi hne F₁ N₁) (fun f s' z => ?_) fun _ _ z => z
    cases f with
    | ret v => exact z
    | brk => exact z.elim
    | next => obtain ⟨h', tk', m', nx, e, F', N', ha, hm', hJ'⟩ := z; exact ⟨h', tk', m', nx, e, F', N', ha, hm', hJ'⟩
    | cont => obtain ⟨h', tk', m', nx, e, F', N', ha, hm', hJ'⟩ := z; exact ⟨h', tk', m', nx, e, F', N', ha, hm', hJ'⟩
  · rintro h' tk m' news' F' N' ⟨hm, hJ'⟩
    rw [map_left hm] at F'
    exact done h' tk m' news' F' N' hJ'

theorem for_range3 {r : Addr} {t₀ u₀ v₀ : Tok} {n : Nat} {news src : List (Addr × Obj)} {m₀ : Str → Option Value} (stored : List Str) (J : Nat → List (Addr × Obj) → Prop)
    (hh : A.handled = none) (hr : IsRange s.heap r 0 (n : Int) 1 t₀ u₀ v₀) (hn : n ≤ 1000) (F : Fr h₀ env.locals s.heap m₀) (N : News h₀ env.locals s.heap (src ++ news)) (hJ : J 0 news)
    (turn : ∀ i t (u : Str → Option Value) news₁ h tk I oI, i < n → (∀ p ∈ src ++ news, p.1 < I) → J i news₁ → (∀ p ∈ news₁, p.1 ≠ I) → Fr h₀ env.locals h (fun z => if z = x then some (.int (i : Int) t) else if stored.contains z = true then u z else m₀ z) → News h₀ env.locals h ((I, oI) :: (src ++ news₁)) →
      wpAny (model prog w) A (execs body env) (TurnEnd3 h₀ env.locals (J (i + 1)) ((I, oI) :: src) I x stored m₀ { s with heap := h, toks := tk } (fun v s' => Q (.ret v) s')) E { s with heap := h, toks := tk })
    (done : ∀ h' tk (u : Str → Option Value) news', Fr h₀ env.locals h' (fun z => if z = x then u z else if stored.contains z = true then u z else m₀ z) → News h₀ env.locals h' (src ++ news') → J n news' → Q .next { s with heap := h', toks := tk }) :
    wpAny (model prog w) A (pyIter (.ref r)) (fun it s₂ => LoopAtV prog w A h₀ env x body Q E it s₂) E s := by
  refine for_range2 (fun i m nx => (∀ z, z ≠ x → stored.contains z = false → m z = m₀ z) ∧ J i nx) hh hr hn F N ⟨fun _ _ _ => rfl, hJ⟩ ?_ ?_
  · rintro i t m₁ news₁ h tk I oI hn hlt ⟨hm, hJi⟩ hne F₁ N₁
    rw [map_put hm] at F₁
    refine wpAny_mono (turn i t m₁ news₁ h tk I oI hn hlt hJi hne F₁ N₁) (fun f s' z => ?_) fun _ _ z => z
    cases f with
    | ret v => exact z
    | brk => exact z.elim
    | next => obtain ⟨h', tk', m', nx, e, F', N', ha, hm', hJ'⟩ := z; exact ⟨h', tk', m', nx, e, F', N', ha, hm', hJ'⟩
    | cont => obtain ⟨h', tk', m', nx, e, F', N', ha, hm', hJ'⟩ := z; exact ⟨h', tk', m', nx, e, F', N', ha, hm', hJ'⟩
  · rintro h' tk m' news' F' N' ⟨hm, hJ'⟩
    rw [map_left hm] at F'
    exact done h' tk m' news' F' N' hJ'
end
end Mine
end

section
open PySem PySem.W PyProof.Rows
theorem Mine.rs_LAW {M : Model} {A : Around} {s : Shared} {v : Value} {Q : Bool → Shared → Prop} {E : Value → Shared → Prop} (h : wpAny M A (truthy v) Q E s) : wpAny M A (truthy v) Q E s := by
  first | (walk1; fail) | exact h
end

section
open PySem PySem.W PyProof.Rows PySem.Builtin.Frozenset PySem.Calls
set_option Elab.async false
set_option maxRecDepth 100000
set_option maxHeartbeats 4000000
namespace Mine

local macro_rules | `(tactic| k_inst) => `(tactic| (refine' OSet.inst ?O ?N ?h1 ?h2; (case N => k_asm); (case O => k_asm); (case h1 => k_mem); (case h2 => k_mem)))
local macro_rules | `(tactic| walk_at "compareOp NotIn int ref") => `(tactic| (k_here; k_dflt (refine' notin_N ?F ?X ?N ?m ?O ?b ?_; (case F => k_asm); (case X => k_asm); (case N => k_asm); (case O => k_asm); (case m => k_mem); (case b => (first | assumption | (unfold scanBound; omega))))))
local macro_rules | `(tactic| walk_at "compareOp In int ref") => `(tactic| (k_here; k_dflt (refine' in_N ?F ?X ?N ?m ?O ?b ?_; (case F => k_asm); (case X => k_asm); (case N => k_asm); (case O => k_asm); (case m => k_mem); (case b => (first | assumption | (unfold scanBound; omega))))))
local macro_rules | `(tactic| walk_at "getAttr ref") => `(tactic| (k_here; (with_reducible show wpAny _ _ (getAttr (Value.ref _) (Str.ofString "_list") _) _ _ _); k_dflt (refine' list_N ?F ?X ?N ?m ?O ?n ?_; (case F => k_asm); (case X => k_asm); (case N => k_asm); (case O => k_asm); (case m => k_mem); (case n => k_mem))))
local macro_rules | `(tactic| walk_at "call builtin:set.add") => `(tactic| (k_here; (with_reducible show wpAny _ _ (call (Value.builtin "set.add") [Value.ref _, Value.int _ _]) _ _ _); k_dflt (refine' add_N ?F ?X ?N ?U ?O ?b ?_; (case F => k_asm); (case X => k_asm); (case N => k_asm); (case O => k_asm); (case U => k_updF); (case b => (first | assumption | (unfold scanBound; omega)))); intro h' tk' o' F' N' O'; (try dsimp only at N')))
local macro_rules | `(tactic| walk_at "getMethod") => `(tactic| (k_here; (with_reducible show wpAny _ _ (getMethod (Value.type "set") _ _) _ _ _); (with_reducible refine' getMethod_setT ?F ?X ?e ?h ?_); k_dflt ((case F => k_asm); (case X => k_asm); (case e => first | with_reducible exact k_set_add | with_reducible exact k_set_remove | with_reducible exact k_set_update | with_reducible exact k_set_init | with_reducible exact k_set_inter | with_reducible exact k_set_diff | with_reducible exact k_set_interu | with_reducible exact k_set_diffu | with_reducible exact k_set_symu); (case h => rfl))))
local macro_rules | `(tactic| walk_at "call builtin:set.remove") => `(tactic| (k_here; (with_reducible show wpAny _ _ (call (Value.builtin "set.remove") [Value.ref _, Value.int _ _]) _ _ _); k_dflt (refine' remove_N ?F ?X ?N ?U ?O ?b ?k ?_; (case F => k_asm); (case X => k_asm); (case N => k_asm); (case O => k_asm); (case U => k_updF); (case b => (first | assumption | (unfold scanBound; omega))); (case k => assumption)); intro h' tk' o' F' N' O'; (try dsimp only at N')))
local macro_rules | `(tactic| walk_at "eval Call Attribute") => `(tactic| (k_here; k_dflt (refine methodCall_star (by rfl) (by rfl) ?_)))
local macro_rules | `(tactic| walk_at "getAttr") => `(tactic| (k_here; (with_reducible show wpAny _ _ (getAttr (Value.type "set") _ _) _ _ _); k_dflt (refine' getAttr_setT ?X ?e ?h ?_; (case X => k_in); (case e => first | with_reducible exact k_set_inter | with_reducible exact k_set_diff | with_reducible exact k_set_interu | with_reducible exact k_set_diffu); (case h => rfl))))
local macro_rules | `(tactic| walk_at "callWith") => `(tactic| (k_here; (with_reducible show wpAny _ _ (callWith _ (Value.builtin _) [] _ []) _ _ _); k_dflt (refine' callWith_starB ?b ?_ ?a ?c; (case a => rfl); (case c => rfl); (case b => exact fun _ => Looks.of_pure rfl))))

local macro_rules | `(tactic| walk_at "getMethod ref") => `(tactic| (k_here; (with_reducible show wpAny _ _ (getMethod (Value.ref _) _ _) _ _ _); k_dflt (refine' meth_N ?F ?X ?N ?m ?O ?n ?f ?t ?_; (case F => k_asm); (case X => k_asm); (case N => k_asm); (case O => k_asm); (case m => k_mem); (case n => k_mem); (case f => rfl); (case t => rfl))))

local macro_rules | `(tactic| walk_at "compareOp NotEq ref ref") => `(tactic| (k_here; (with_reducible show wpAny _ _ (compareOp CmpOp.NotEq (Value.ref _) (Value.ref _)) _ _ _); refine hold_in ?_))
local macro_rules | `(tactic| walk_at "compareOp Eq ref ref") => `(tactic| (k_here; (with_reducible show wpAny _ _ (compareOp CmpOp.Eq (Value.ref _) (Value.ref _)) _ _ _); refine hold_in ?_))
local macro_rules | `(tactic| walk_at "call builtin:len") => `(tactic| (k_here; (with_reducible show wpAny _ _ (call (Value.builtin "len") [Value.ref _]) _ _ _); refine hold_in ?_))

local macro_rules | `(tactic| walk_at "eval ListComp") => `(tactic| (k_here; (with_reducible show wpAny _ _ (eval (.ListComp (.Call _ _ _ _) _ _ _) _) _ _ _); refine hold_in ?_))
def GotInt (n : Int) (s : Shared) (h : Heap) (v : Value) (s' : Shared) : Prop := ∃ t tk', v = .int n t ∧ s' = { s with heap := h, toks := tk' }
local macro_rules | `(tactic| walk_at "exec For Name Subscript cons nil") => `(tactic| (k_here; (rename Fr _ _ _ _ => lF'); (with_unfolding_all refine' For_invVF lF' ?k1 ?k2 ?_; (case k1 => exact rfl); (case k2 => exact rfl); k_whole)))
local macro_rules | `(tactic| walk_at "exec For Name Call cons nil") => `(tactic| (k_here; (rename Fr _ _ _ _ => lF'); (with_unfolding_all refine' For_invVF lF' ?k1 ?k2 ?_; (case k1 => exact rfl); (case k2 => exact rfl); k_whole)))
local macro_rules | `(tactic| walk_at "pyIter ref") => `(tactic| (k_here; (with_reducible show wpAny _ _ (pyIter (Value.ref _)) _ _ _); refine hold_in ?_))
local macro_rules | `(tactic| walk_at "subscriptTail Name Name ref int") => `(tactic| (k_here; (with_reducible show wpAny _ _ (subscriptTail _ _ (Value.ref _) (Value.int _ _)) _ _ _); refine hold_in ?_))
local macro_rules | `(tactic| walk_at "setItem ref int ref") => `(tactic| (k_here; refine hold_in ?_))
local macro_rules | `(tactic| walk_at "eval IfExp") => `(tactic| (k_here; (with_reducible show wpAny _ _ (eval _ _) (fun _ _ => wpAny _ _ _ _ _ _) _ _); refine hold_in ?_))
theorem law_ct {w : World} {s₀ : Shared} {mg mb : Str → Option Value} {hb : Heap} {A : Around} {s : Shared} {R : Result → Shared → Prop} {ps : Addr} {vs : List Value} {ns : List Int} (Y : Ct w s₀ mg mb hb A s 700) (hG : A.guards = some []) (hl : s.heap.IsList ps vs.toArray) (I : IntsAre vs ns) (hlen : ns.length ≤ 63)
    (h : ∀ h' tk', KeptBut [] s.heap h' → R (.ok (.ret (.bool true))) { s with heap := h', toks := tk' }) :
    codeAny (model PySem.Challenge.rw_ep5040_01.row.prog w) A (.call (.ref 267) ⟨[.ref ps], []⟩) R s := by
  have HW : ∀ p ∈ ([] : List (Addr × Obj)), s.heap.get? p.1 = some p.2 := by simp
  have HF : ∀ p ∈ ([] : List (Addr × Obj)), hb.get? p.1 = none := by simp
  have KX0 := Y.C.K
  revert KX0
  k_fill
  intro KX0
  refine enterC (f := 267) (binds := [(Str.ofString "script", Value.ref ps)]) [] Y.C Y.k HW HF (Nat.lt_trans Y.depth (by unfold recursionLimit; decide)) rfl (by k_is) (BindsTo.of_eq rfl) (kindsX (by rfl)) (by decide +kernel) ?_
  intro g L' h₁ tk cells hg Cg hsz hL F N CY hlt
  have KX := Cg.K
  have T := Cg.T
  have hh := Y.hand
  clear KX0
  obtain ⟨oc1, oc2, rfl, dc1, dc2⟩ := CellsAre.two CY
  clear CY
  simp only [List.cons_append, List.nil_append] at N
  have hlg : g.IsList ps vs.toArray := let ⟨ol, h1, r⟩ := hl; ⟨ol, hg _ _ h1 (by simp), r⟩
  k_steps
  unfold Hold
  refine wpAny_mono (Q := GotInt (ns.getD 0 0) s h₁) ?_ ?_ fun _ _ z => z
  · k_steps
    · exact ⟨_, _, rfl, rfl⟩
    · have hz := ‹¬ 0 < ns.length›
      have hnil : ns = [] := List.eq_nil_of_length_eq_zero (by omega)
      exact ⟨_, _, by rw [hnil]; rfl, rfl⟩
  rintro v s' ⟨t, tk', rfl, rfl⟩
  generalize ns.getD 0 0 = fv
  k_steps
  rename IsRange _ _ _ _ _ _ _ _ => hr
  rename Fr g L' _ _ => F2
  rename News g L' _ _ => N2
  obtain ⟨o1, N2, do1⟩ : ∃ o1, News g L' _ [(L' + 1 + 1, oc1), (L' + 1, o1)] ∧ o1.data = .cell (some (.int fv t)) := ⟨_, N2, ‹_›⟩
  have f0 : 0 ≤ (fv + 1).fmod 7 := Int.fmod_nonneg_of_pos _ (by decide)
  have f1 : (fv + 1).fmod 7 < 7 := Int.fmod_lt_of_pos _ (by decide)
  refine LCg.CompSrc.range (n := ((fv + 1).fmod 7).toNat) hh F2 N2 hr (range_small f0 (by omega)) (range_size f0) (by rw [sizeLine_eq]; omega) (fun gh => rest_ind (n := ((fv + 1).fmod 7).toNat) (fun i ys news => news = [(L' + 1 + 1, oc1), (L' + 1, o1)] ∧ IntsAre ys ((List.range i).map fun (i : Nat) => (fv.fdiv 7 + 3 * (i : Int)).fmod 10)) ?_ ?_ ((fv + 1).fmod 7).toNat 0 [] [(L' + 1 + 1, oc1), (L' + 1, o1)] (by omega) ⟨rfl, .nil⟩)
  · rintro i ys news v I oI C oC D m₂ h5 tk5 E' hi ⟨rfl, hJ⟩ ⟨t, rfl⟩ hC hx F5 N5 off hne
    repeat (first | walk1 | (dsimp only; walk1))
    refine LCg.CompEnd.intro F5 N5 [(L' + 1 + 1, oc1), (L' + 1, o1)] (fun p hp => hp) off trivial ⟨rfl, ?_⟩
    exact ints_snoc hJ (by rw [Int.zero_add])
  rintro ws news ⟨rfl, hW⟩
  have hW' : IntsAre ws (rowF fv) := hW
  have hdg := rowF_digs fv
  generalize rowF fv = row at hW' hdg
  clear hW
  k_steps
  rename_i Dr h3a tk3a off3 h3 o2 F3 N3 do2
  refine wpAny_call (row_ct (Y.down (A' := _) (d' := 900) Cg F3.keep (by show A.depth + 1 + 700 ≤ A.depth + 900; omega) (by show A.units + 3 + 700 * 8 ≤ A.units + 900 * 8; omega) rfl) fun h4 tk4 Ds ns4 vs4 k4 n4 I4 e4 => ?_)
  have N4 := news_new F3 N3 k4 n4 e4
  have F4 := fr_kept0 F3 k4
  have q4a := ne_none n4 (N3.get (a := Dr) (by k_mem))
  have q4b := ne_none n4 (N3.get (a := L' + 1) (by k_mem))
  have q4c := ne_none n4 (N3.get (a := L' + 1 + 1) (by k_mem))
  have hsn := rowL_nodup (fv.fdiv 70)
  have hsd := rowL_dig (fv.fdiv 70)
  generalize rowL (fv.fdiv 70) = shp at I4 hsn hsd
  have hsg : Digs shp := ⟨hsn, hsd⟩
  have hsl := hsg.length
  have hrl := hdg.length
  clear F3 N3
  k_steps
  rename Fr g L' _ _ => F5
  rename News g L' _ _ => N5
  have N5' : News g L' _ [(Ds, PySem.W.listOf vs4.toArray ns4), (Dr, LCg.lst ws), (L' + 1 + 1, o2), (L' + 1, o1)] := fun p hp => N5 p (.tail _ hp)
  refine wpAny_call (os_of_list (Y.down (A' := _) (d' := 840) Cg F5.keep (by show A.depth + 1 + 700 ≤ A.depth + 840; omega) (by show A.units + 3 + 700 * 8 ≤ A.units + 840 * 8; omega) rfl) (N5.get (.head _)) I4 (by omega) hsn fun h6 tk6 a0 dx0 l0 k6 n6a n6b n6c O6 => ?_)
  obtain ⟨⟨o0, vs0, n0, ha0, hl0, O0, I0⟩, hdx0, ba0, bd0, bl0⟩ := O6
  have F6 := fr_kept0 F5 k6
  have N6 := news_born F5 N5' k6 n6a n6b n6c ha0 hdx0 hl0
  have q6 := ne_none n6c (N5'.get (a := Dr) (by k_mem))
  clear F5 N5 N5' hdx0 hl0 ha0
  k_steps
  rename Fr g L' _ _ => F7
  rename News g L' _ _ => N7
  refine wpAny_call (births_ct (Y.down (A' := _) (d' := 800) Cg F7.keep (by show A.depth + 1 + 700 ≤ A.depth + 800; omega) (by show A.units + 3 + 700 * 8 ≤ A.units + 800 * 8; omega) rfl) (.mk' (N7.get (by k_mem)) (N7.get (by k_mem)) (N7.get (by k_mem)) O0 I0 ba0 bd0 bl0) (npr := ws.length) (N7.get (a := Dr) (by k_mem)) hW' hdg.1 hdg.small (by omega) (Ne.symm q6) fun h8 tk8 B nB ts k8 n8 e8 lts Z8 hBo => ?_)
  have F8 := fr_kept0 F7 k8
  have N8 := news_new F7 N7 k8 n8 e8
  obtain ⟨T8, NT8, S8⟩ := Z8.snap F7
  have N9 := news_join N8 NT8
  simp only [List.cons_append, List.nil_append] at N9
  have hav8 := live_all F7 N7
  simp only [List.map_cons, List.map_nil] at hav8
  have oA8 : ∀ b ∈ ads ts, b ∉ [L', a0, dx0, l0, Ds, Dr, L' + 1 + 1, L' + 1] := fun b hb' => live_off (Z8.new b hb') hav8
  have oB8 : B ∉ [L', a0, dx0, l0, Ds, Dr, L' + 1 + 1, L' + 1] := live_off n8 hav8
  clear F7 N7 N8 NT8 hav8
  k_steps
  rename Fr g L' _ _ => Fa
  rename News g L' _ _ => Na
  refine LCg.Assign_ListComp_U (F₀ := Fa) (by rfl) (by with_unfolding_all rfl) (by with_unfolding_all rfl) (by decide) (by rfl) (by decide) (by rfl) (by rfl) (by rfl) ?_
  k_steps
  refine LCg.CompSrc.ledger hh Fa Na (.head _) (by simp [lts, sizeLine_eq]) (fun gh => rest_ind (n := 11) (fun i ys news => ∃ T ps, news = (B, PySem.W.listOf (ts.map fun t => Value.ref t.1).toArray nB) :: (a0, o0) :: (dx0, dictObj) :: (l0, PySem.W.listOf vs0.toArray n0) :: (Ds, PySem.W.listOf vs4.toArray ns4) :: (Dr, LCg.lst ws) :: (L' + 1 + 1, o2) :: (L' + 1, o1) :: T ∧ PlJ ws T8 [B, a0, dx0, l0, Ds, Dr, L' + 1 + 1, L' + 1] (ads ts) T ps ys i) ?_ ?_ _ 0 [] _ (by simp [lts]) ⟨T8, [], rfl, plJ_nil⟩)
  · rintro i ys news v I oI C oC D m₂ h5 tk5 E' hi ⟨T, ps, rfl, J⟩ hPv hC hx F5 N5 off hne
    clear Fa Na
    repeat (first | (k_unfold; (try dsimp only)) | walk1 | (dsimp only; walk1))
    rename_i D6 c6 h6 F6 N6 l6
    obtain ⟨u1, u2, u3, u4, u5, u6, u7, u8, u9, u10, u11, u12⟩ := l6
    refine LCg.CompEnd.intro F6 N6 ((B, PySem.W.listOf (ts.map fun t => Value.ref t.1).toArray nB) :: (a0, o0) :: (dx0, dictObj) :: (l0, PySem.W.listOf vs0.toArray n0) :: (Ds, PySem.W.listOf vs4.toArray ns4) :: (Dr, LCg.lst ws) :: (L' + 1 + 1, o2) :: (L' + 1, o1) :: (D6, PySem.W.listOf ws.toArray c6) :: T) ?_ ?_ (.inr ⟨_, .head _, rfl, _, rfl⟩) ⟨_, ps ++ [D6], rfl, plJ_add J S8.1 ?_ u12⟩
    · intro p hp
      simp only [List.mem_cons] at hp ⊢
      rcases hp with h | h | h | h | h | h | h | h | h | h | h | h | h <;> simp [h]
    · exact ⟨off.1, off.2.1, off.2.2.1, off.2.2.2.1, off.2.2.2.2.1, off.2.2.2.2.2.1, off.2.2.2.2.2.2.1, off.2.2.2.2.2.2.2.1, ⟨Nat.ne_of_gt u1, Nat.ne_of_gt u2, Nat.ne_of_gt u3⟩, off.2.2.2.2.2.2.2.2⟩
    · intro b hb'
      simp only [List.mem_cons, List.not_mem_nil, or_false] at hb'
      rcases hb' with rfl | rfl | rfl | rfl | rfl | rfl | rfl | rfl <;> assumption
  rintro ys news ⟨T, ps, rfl, J⟩
  clear Fa Na
  k_steps
  unfold Hold
  rename_i Pp hPp tkp offP D9 us h9 F9 N9 I9 _ _ l9
  have NT9 : News g L' h9 T := fun p hp => N9 p (by simp [hp])
  obtain ⟨p1, p2, p3, p4, p5, p6, p7, p8, pT⟩ := offP
  obtain ⟨j0, j1, j2, j3, j4, j5, j6, j7, j8, jT⟩ := l9
  have ltT := tb_ltOf jT
  have inT8 : ∀ b ∈ ads ts, ∃ o, (b, o) ∈ T := fun b hb' => let ⟨o, e⟩ := S8.1 b hb'; ⟨o, J.sub _ e⟩
  have qP := N9 (Pp, LCg.lst ys) (.tail _ (.head _))
  have qB := N9 (B, PySem.W.listOf (ts.map fun t => Value.ref t.1).toArray nB) (.tail _ (.tail _ (.head _)))
  have Z9 : Wd w g h9 [L', D9, a0, dx0, l0, Ds, Dr, L' + 1 + 1, L' + 1] B Pp (List.zipWith (mkBx row) ts ps) := by
    refine wd_start NT9 (S8.2.2 h9 fun p hp => NT9 p (J.sub p hp)) J S8.1 lts ⟨_, qB.1, rfl, _, rfl⟩ ⟨_, qP.1, rfl, _, rfl⟩ hW' hdg hBo (fun hm => (J.off B hm).1 (.head _)) (off1_mem pT) p1 qB.2.2 qP.2.2 (not_ins oB8 (Nat.ne_of_lt j1)) (not_ins ?_ (Nat.ne_of_lt j0)) (fun b hb' => not_ins (oA8 b hb') ?_) (fun p hp => not_ins ?_ ?_)
    · intro hm
      simp only [List.mem_cons, List.not_mem_nil, or_false] at hm
      rcases hm with e | e | e | e | e | e | e | e
      · exact qP.2.1 e
      · exact p2 e.symm
      · exact p3 e.symm
      · exact p4 e.symm
      · exact p5 e.symm
      · exact p6 e.symm
      · exact p7 e.symm
      · exact p8 e.symm
    · obtain ⟨o, e⟩ := inT8 b hb'
      exact Nat.ne_of_lt (ltT _ e)
    · intro hm
      obtain ⟨c, e⟩ := J.at_ p hp
      rcases List.mem_cons.mp hm with e2 | hm
      · exact (NT9 _ e).2.1 e2
      · exact (J.off p hp).1 (.tail _ hm)
    · obtain ⟨c, e⟩ := J.at_ p hp
      exact Nat.ne_of_lt (ltT _ e)
  obtain ⟨T9, NT9', S9⟩ := Z9.snap (L := L') (.head _)
  have NX9 : News g L' h9 [(D9, PySem.W.listOf us.toArray 0), (a0, o0), (dx0, dictObj), (l0, PySem.W.listOf vs0.toArray n0), (Ds, PySem.W.listOf vs4.toArray ns4), (Dr, LCg.lst ws), (L' + 1 + 1, o2), (L' + 1, o1)] := fun p hp => N9 p (by
    simp only [List.mem_cons, List.not_mem_nil, or_false] at hp ⊢
    rcases hp with h | h | h | h | h | h | h | h <;> simp [h])
  have M9 := news_join NX9 NT9'
  generalize List.zipWith (mkBx row) ts ps = st9 at Z9 S9
  clear N9 NX9 NT9 NT9' Z8 S8 hBo oA8 oB8 p1 p2 p3 p4 p5 p6 p7 p8 pT j0 j1 j2 j3 j4 j5 j6 j7 j8 jT ltT inT8 qP qB J
  refine for_list3 (src := [(D9, PySem.W.listOf us.toArray 0), (a0, o0), (dx0, dictObj), (l0, PySem.W.listOf vs0.toArray n0), (Ds, PySem.W.listOf vs4.toArray ns4), (Dr, LCg.lst ws), (L' + 1 + 1, o2), (L' + 1, o1)]) (news := T9) [Str.ofString "i"]
    (fun _ nx => ∃ st, Snap g L' nx (adr B Pp st) fun h' => Wd w g h' [L', D9, a0, dx0, l0, Ds, Dr, L' + 1 + 1, L' + 1] B Pp st) hh ⟨_, (M9 (D9, _) (.head _)).1, rfl, _, rfl⟩ I9 F9 M9 ⟨_, .head _⟩ ⟨st9, S9⟩ ?_ ?_
  · rintro xi x tx u T10 h10 tk10 I1 oI1 hx hlI ⟨st, S10⟩ hne F10 N10
    clear F9 M9 S9 Z9
    simp only [List.cons_append, List.nil_append] at N10 hlI
    replace F10 : Fr g L' h10 _ := F10
    replace N10 : News g L' h10 _ := N10
    have Z10 := S10.2.2 h10 (fun p hp => N10 p (by simp [hp]))
    k_steps
    unfold Hold
    refine kun_lenL (k := 11) Z10.births (by simp [Z10.len]) (by decide) ?_
    k_steps
    unfold Hold
    rename IsRange _ _ _ _ _ _ _ _ => hr11
    rename Fr g L' _ _ => F11
    rename News g L' _ _ => N11
    refine for_range3 (src := [(I1, oI1), (D9, PySem.W.listOf us.toArray 0), (a0, o0), (dx0, dictObj), (l0, PySem.W.listOf vs0.toArray n0), (Ds, PySem.W.listOf vs4.toArray ns4), (Dr, LCg.lst ws), (L' + 1 + 1, o2), (L' + 1, o1)]) (news := T10) [] (fun _ nx => ∃ st, Snap g L' nx (adr B Pp st) fun h' => Wd w g h' [L', I1, D9, a0, dx0, l0, Ds, Dr, L' + 1 + 1, L' + 1] B Pp st) hh hr11 (by decide) F11 N11 ⟨st, snap_ins S10 hne⟩ ?_ ?_
    · rintro k t12 u2 T12 h12 tk12 I2 oI2 hk hlI2 ⟨st2, S12⟩ hne2 F12 N12
      clear Z10 S10 F11 N11 hr11 hne
      simp only [List.cons_append, List.nil_append] at N12 hlI2
      replace F12 : Fr g L' h12 _ := F12
      replace N12 : News g L' h12 _ := N12
      have Z12 : Wd w g h12 [L', I2, I1, D9, a0, dx0, l0, Ds, Dr, L' + 1 + 1, L' + 1] B Pp st2 := (snap_ins S12 hne2).2.2 h12 (fun p hp => N12 p (by simp [hp]))
      have NX12 : News g L' h12 [(I2, oI2), (I1, oI1), (D9, PySem.W.listOf us.toArray 0), (a0, o0), (dx0, dictObj), (l0, PySem.W.listOf vs0.toArray n0), (Ds, PySem.W.listOf vs4.toArray ns4), (Dr, LCg.lst ws), (L' + 1 + 1, o2), (L' + 1, o1)] := fun p hp => N12 p (by
        simp only [List.mem_cons, List.not_mem_nil, or_false] at hp ⊢
        rcases hp with h | h | h | h | h | h | h | h | h | h <;> simp [h])
      k_steps
      · rename Fr g L' _ _ => F13
        rename News g L' _ _ => N13
        have hk11 : k < 11 := hk
        obtain ⟨b, hb⟩ : ∃ b, st2[k]? = some b := ⟨_, List.getElem?_eq_getElem (by rw [Z12.len]; exact hk)⟩
        have hbm : b ∈ st2 := List.mem_of_getElem? hb
        unfold Hold
        refine item_L Z12.births (by omega) (by omega) (x := Value.ref b.a) (by simp [hb]) ?_
        k_steps
        unfold Hold
        refine item_L Z12.plains (by omega) (by omega) (x := Value.ref b.p) (by simp [hb]) ?_
        k_steps
        obtain ⟨wsb, npb, hpb, Ib⟩ := Z12.pl b hbm
        have hdb := Z12.dig b hbm
        have hbl := hdb.length
        obtain ⟨z1, z2, z3, z4, z5, z6, z7⟩ := Z12.pl_ne hbm
        refine wpAny_call (do_ct (Y.down (A' := _) (d' := 890) Cg F13.keep (by show A.depth + 1 + 700 ≤ A.depth + 890; omega) (by show A.units + 3 + 700 * 8 ≤ A.units + 890 * 8; omega) rfl) (Z12.os b hbm) hpb Ib hdb.small (by omega) z1 fun h14 tk14 l14 k14 hl14 O14 => ?_)
        have F14 := Z12.frame F13 k14 (Bx.two hbm)
        have N14 := Z12.news N13 k14 (Bx.two hbm) rfl
        have P14 : h14.IsList Pp (st2.map fun b => Value.ref b.p).toArray := IsList.keep Z12.plains fun o e => k14 _ _ (by simp; exact ⟨Ne.symm z4, Ne.symm z5⟩) e
        have hp14 : h14.get? b.p = some (PySem.W.listOf wsb.toArray npb) := k14 _ _ (by simp; exact ⟨z2, z1⟩) hpb
        have hav13 := live_all F13 N13
        have hg13 := F13.keep
        clear F13 N13
        k_steps
        unfold Hold
        refine item_L P14 (by omega) (by omega) (x := Value.ref b.p) (by simp [hb]) ?_
        k_steps
        rename Fr g L' _ _ => F15
        rename News g L' _ _ => N15
        refine wpAny_call (next_ct (Y.down (A' := _) (d' := 890) Cg F15.keep (by show A.depth + 1 + 700 ≤ A.depth + 890; omega) (by show A.units + 3 + 700 * 8 ≤ A.units + 890 * 8; omega) rfl) hp14 Ib (by omega) fun h16 tk16 D16 n16 vs16 k16 nD16 I16 e16 => ?_)
        have F16 := fr_kept0 F15 k16
        have N16 := news_kept0 N15 k16
        have P16 : h16.IsList Pp (st2.map fun b => Value.ref b.p).toArray := IsList.keep P14 fun o e => k16 _ _ (by simp) e
        clear F15 N15
        k_steps
        unfold Hold
        refine wpAny_setItem_list P16 (by omega) (by omega) (by simp [Z12.len]; omega) fun h17 P17 s17 => ?_
        have k17 : KeptBut [Pp] h16 h17 := keptBut_of_sameBut s17
        have F17 := Z12.frame F16 k17 adr_P
        have N17 := Z12.news N16 k17 adr_P rfl
        clear F16 N16
        k_steps
        have Z17 := Z12.step hb hav13 hg13 k14 O14 hl14 k16 nD16 e16 I16 k17 P17 (hdb.next x)
        obtain ⟨T17, NT17, S17⟩ := Z17.snap (L := L') (.head _)
        exact TurnEnd3.next F17 (news_join N17 NT17) (snap_ne S17 Z17) map_keep ⟨_, snap_del S17⟩
      · exact TurnEnd3.next F12 N12 hne2 map_keep ⟨st2, S12⟩
    rintro h18 tk18 u18 T18 F18 N18 ⟨st18, S18⟩
    clear Z10 S10 F11 N11 hr11 hne hlI
    simp only [List.cons_append, List.nil_append] at N18
    replace F18 : Fr g L' h18 _ := F18
    replace N18 : News g L' h18 _ := N18
    have Z18 : Wd w g h18 [L', I1, D9, a0, dx0, l0, Ds, Dr, L' + 1 + 1, L' + 1] B Pp st18 := S18.2.2 h18 (fun p hp => N18 p (by simp [hp]))
    k_steps
    unfold Hold
    refine kun_lenL (k := 11) Z18.births (by simp [Z18.len]) (by decide) ?_
    k_steps
    unfold Hold
    rename IsRange _ _ _ _ _ _ _ _ => hr20
    rename Fr g L' _ _ => F20
    rename News g L' _ _ => N20
    refine for_range3 (src := [(I1, oI1), (D9, PySem.W.listOf us.toArray 0), (a0, o0), (dx0, dictObj), (l0, PySem.W.listOf vs0.toArray n0), (Ds, PySem.W.listOf vs4.toArray ns4), (Dr, LCg.lst ws), (L' + 1 + 1, o2), (L' + 1, o1)]) (news := T18) [] (fun _ nx => Snap g L' nx (adr B Pp st18) fun h' => Wd w g h' [L', I1, D9, a0, dx0, l0, Ds, Dr, L' + 1 + 1, L' + 1] B Pp st18) hh hr20 (by decide) F20 N20 S18 ?_ ?_
    · rintro k t20 u20 T20b h20b tk20b I20 oI20 hk hl20 S20b hne20 F20b N20b
      clear F20 N20 hr20
      simp only [List.cons_append, List.nil_append] at N20b hl20
      replace F20b : Fr g L' h20b _ := F20b
      replace N20b : News g L' h20b _ := N20b
      have Z20b : Wd w g h20b [L', I20, I1, D9, a0, dx0, l0, Ds, Dr, L' + 1 + 1, L' + 1] B Pp st18 := (snap_ins S20b hne20).2.2 h20b (fun p hp => N20b p (by simp [hp]))
      have hk11 : k < 11 := hk
      obtain ⟨b, hb⟩ : ∃ b, st18[k]? = some b := ⟨_, List.getElem?_eq_getElem (by rw [Z20b.len]; exact hk)⟩
      have hbm : b ∈ st18 := List.mem_of_getElem? hb
      have hdb := Z20b.dig b hbm
      obtain ⟨z1, z2, z3, z4, z5, z6, z7⟩ := Z20b.pl_ne hbm
      obtain ⟨wsb, npb, hpb, Ib⟩ := Z20b.pl b hbm
      k_steps
      unfold Hold
      refine item_L Z20b.births (by omega) (by omega) (x := Value.ref b.a) (by simp [hb]) ?_
      k_steps
      unfold Hold
      refine item_L Z20b.plains (by omega) (by omega) (x := Value.ref b.p) (by simp [hb]) ?_
      k_steps
      rename Fr g L' _ _ => F20c
      refine wpAny_call (agrees_ct (Y.down (A' := _) (d' := 850) Cg F20c.keep (by show A.depth + 1 + 700 ≤ A.depth + 850; omega) (by show A.units + 3 + 700 * 8 ≤ A.units + 850 * 8; omega) rfl) hG (Z20b.os b hbm) hpb Ib hdb z1 fun h20d tk20d k20d => ?_)
      have F20d := fr_kept0 F20c k20d
      have N20d := news_kept0 N20b k20d
      clear F20c N20b
      k_steps
      exact TurnEnd3.next F20d N20d hne20 map_keep S20b
    rintro h22 tk22 u22 T22 F22 N22 S22
    clear F20 N20 hr20
    simp only [List.cons_append, List.nil_append] at N22
    replace F22 : Fr g L' h22 _ := F22
    replace N22 : News g L' h22 _ := N22
    have Z22 : Wd w g h22 [L', I1, D9, a0, dx0, l0, Ds, Dr, L' + 1 + 1, L' + 1] B Pp st18 := S22.2.2 h22 (fun p hp => N22 p (by simp [hp]))
    k_steps
    exact TurnEnd3.next F22 N22 (snap_ne S22 Z22) (fun z h1 h2 => have h3 : z ≠ Str.ofString "i" := (fun e => by subst e; exact absurd h2 (by decide)); (keep1 h3 rfl).trans ((keep1 h3 rfl).trans (keep1 h1 h2))) ⟨st18, snap_del S22⟩
  rintro h23 tk23 u23 T23 F23 N23 ⟨st23, S23⟩
  clear F9 M9 S9 Z9
  simp only [List.cons_append, List.nil_append] at N23
  replace F23 : Fr g L' h23 _ := F23
  replace N23 : News g L' h23 _ := N23
  have Z23 : Wd w g h23 [L', D9, a0, dx0, l0, Ds, Dr, L' + 1 + 1, L' + 1] B Pp st23 := S23.2.2 h23 (fun p hp => N23 p (by simp [hp]))
  k_steps
  unfold Hold
  refine kun_lenL (k := 11) Z23.births (by simp [Z23.len]) (by decide) ?_
  k_steps
  unfold Hold
  rename IsRange _ _ _ _ _ _ _ _ => hr25
  rename Fr g L' _ _ => F25
  rename News g L' _ _ => N25
  refine for_range3 (src := [(D9, PySem.W.listOf us.toArray 0), (a0, o0), (dx0, dictObj), (l0, PySem.W.listOf vs0.toArray n0), (Ds, PySem.W.listOf vs4.toArray ns4), (Dr, LCg.lst ws), (L' + 1 + 1, o2), (L' + 1, o1)]) (news := T23) [] (fun _ nx => Snap g L' nx (adr B Pp st23) fun h' => Wd w g h' [L', D9, a0, dx0, l0, Ds, Dr, L' + 1 + 1, L' + 1] B Pp st23) hh hr25 (by decide) F25 N25 S23 ?_ ?_
  · rintro k t25 u25 T25b h25b tk25b I25 oI25 hk hl25 S25b hne25 F25b N25b
    clear F25 N25 hr25
    simp only [List.cons_append, List.nil_append] at N25b hl25
    replace F25b : Fr g L' h25b _ := F25b
    replace N25b : News g L' h25b _ := N25b
    have Z25b : Wd w g h25b [L', I25, D9, a0, dx0, l0, Ds, Dr, L' + 1 + 1, L' + 1] B Pp st23 := (snap_ins S25b hne25).2.2 h25b (fun p hp => N25b p (by simp [hp]))
    have hk11 : k < 11 := hk
    obtain ⟨b, hb⟩ : ∃ b, st23[k]? = some b := ⟨_, List.getElem?_eq_getElem (by rw [Z25b.len]; exact hk)⟩
    have hbm : b ∈ st23 := List.mem_of_getElem? hb
    have hdb := Z25b.dig b hbm
    obtain ⟨z1, z2, z3, z4, z5, z6, z7⟩ := Z25b.pl_ne hbm
    obtain ⟨wsb, npb, hpb, Ib⟩ := Z25b.pl b hbm
    k_steps
    unfold Hold
    refine item_L Z25b.births (by omega) (by omega) (x := Value.ref b.a) (by simp [hb]) ?_
    k_steps
    unfold Hold
    refine item_L Z25b.plains (by omega) (by omega) (x := Value.ref b.p) (by simp [hb]) ?_
    k_steps
    rename Fr g L' _ _ => F25c
    refine wpAny_call (agrees_ct (Y.down (A' := _) (d' := 850) Cg F25c.keep (by show A.depth + 1 + 700 ≤ A.depth + 850; omega) (by show A.units + 3 + 700 * 8 ≤ A.units + 850 * 8; omega) rfl) hG (Z25b.os b hbm) hpb Ib hdb z1 fun h25d tk25d k25d => ?_)
    have F25d := fr_kept0 F25c k25d
    have N25d := news_kept0 N25b k25d
    clear F25c N25b
    k_steps
    exact TurnEnd3.next F25d N25d hne25 map_keep S25b
  rintro h27 tk27 u27 T27 F27 N27 S27
  clear F25 N25 hr25
  simp only [List.cons_append, List.nil_append] at N27
  replace F27 : Fr g L' h27 _ := F27
  replace N27 : News g L' h27 [(a0, o0), (dx0, dictObj), (l0, PySem.W.listOf vs0.toArray n0), (Ds, PySem.W.listOf vs4.toArray ns4), (Dr, LCg.lst ws), (L' + 1 + 1, o2), (L' + 1, o1)] := fun p hp => N27 p (by
    simp only [List.mem_cons, List.not_mem_nil, or_false] at hp ⊢
    rcases hp with h | h | h | h | h | h | h <;> simp [h])
  clear S27 S23 Z23
  k_steps
  rename_i Dt ct h28a l28 h28 F28 N28
  have q28 := N28 (Dt, _) (.head _)
  refine wpAny_call (from_list_ct (Y.down (A' := _) (d' := 880) Cg F28.keep (by show A.depth + 1 + 700 ≤ A.depth + 880; omega) (by show A.units + 3 + 700 * 8 ≤ A.units + 880 * 8; omega) rfl) q28.1 hW' hdg.1 q28.2.2 (by omega) fun h29 tk29 as dxs k29 n29a n29b O29 => ?_)
  obtain ⟨⟨os, vss, nss, has, hls, Os, Is⟩, hds, bas, bds, bls⟩ := O29
  have F29 := fr_kept0 F28 k29
  have N29 : News g L' h29 [(as, os), (dxs, dictObj), (Dt, PySem.W.listOf vss.toArray nss), (a0, o0), (dx0, dictObj), (l0, PySem.W.listOf vs0.toArray n0), (Ds, PySem.W.listOf vs4.toArray ns4), (Dr, LCg.lst ws), (L' + 1 + 1, o2), (L' + 1, o1)] := fun p hp => by
    have N := news_kept0 N28 k29
    have q : ∀ b, h28.get? b = none → b ≠ L' ∧ g.get? b = none := fun b e => ⟨ne_none e (F28.ns.choose_spec.choose_spec.choose_spec.1), stays_none (fun b ob e => F28.keep b ob e) e⟩
    rcases List.mem_cons.mp hp with rfl | hp
    · exact ⟨has, q _ n29a⟩
    rcases List.mem_cons.mp hp with rfl | hp
    · exact ⟨hds, q _ n29b⟩
    rcases List.mem_cons.mp hp with rfl | hp
    · exact ⟨hls, q28.2⟩
    · exact N p (.tail _ hp)
  have w1 := ne_none n29a (N28.get (a := Dt) (by k_mem))
  have x1 : ∀ q ∈ [a0, dx0, l0, Ds, Dr, L' + 1 + 1, L' + 1], q ∉ [as, Dt] := by
    have nas := live_off n29a (live_all F28 N28)
    simp only [List.map_cons, List.map_nil, List.mem_cons, List.not_mem_nil, or_false, not_or] at nas
    obtain ⟨-, -, e1, e2, e3, e4, e5, e6, e7⟩ := nas
    obtain ⟨d1, d2, d3, d4, d5, d6, d7⟩ := l28
    intro q hq
    simp only [List.mem_cons, List.not_mem_nil, or_false, not_or] at hq ⊢
    rcases hq with rfl | rfl | rfl | rfl | rfl | rfl | rfl
    · exact ⟨Ne.symm e1, Nat.ne_of_lt d1⟩
    · exact ⟨Ne.symm e2, Nat.ne_of_lt d2⟩
    · exact ⟨Ne.symm e3, Nat.ne_of_lt d3⟩
    · exact ⟨Ne.symm e4, Nat.ne_of_lt d4⟩
    · exact ⟨Ne.symm e5, Nat.ne_of_lt d5⟩
    · exact ⟨Ne.symm e6, Nat.ne_of_lt d6⟩
    · exact ⟨Ne.symm e7, Nat.ne_of_lt d7⟩
  clear F28 N28 has hds hls q28
  k_steps
  rename Fr g L' _ _ => F30
  rename News g L' _ _ => N30
  have hun : A.units + 3 + 64 < cLine := by have := Y.units; have : cLine = 9900 := rfl; omega
  refine list_S (Y.down (A' := _) (d' := 870) Cg F30.keep (by show A.depth + 1 + 700 ≤ A.depth + 870; omega) (by show A.units + 3 + 700 * 8 ≤ A.units + 870 * 8; omega) rfl) (.mk' (N30.get (a := as) (by k_mem)) (N30.get (a := dxs) (by k_mem)) (N30.get (a := Dt) (by k_mem)) Os Is bas bds bls) (by omega) fun h31 tk31 D31 n31 vs31 k31 f31 I31 e31 => ?_
  have F31 := fr_kept0 F30 k31
  have N31 := news_kept0 N30 k31
  clear F30 N30
  k_steps
  unfold Hold
  refine ne_self ⟨_, e31, rfl, _, rfl⟩ I31 ⟨_, N31.get (a := Dr) (by k_mem), rfl, _, rfl⟩ hW' hun ?_
  k_steps
  rename Fr g L' _ _ => F32
  rename News g L' _ _ => N32
  refine wpAny_call (add_ct (Y.down (A' := _) (d' := 900) Cg F32.keep (by show A.depth + 1 + 700 ≤ A.depth + 900; omega) (by show A.units + 3 + 700 * 8 ≤ A.units + 900 * 8; omega) rfl) (.mk' (N32.get (a := as) (by k_mem)) (N32.get (a := dxs) (by k_mem)) (N32.get (a := Dt) (by k_mem)) Os Is bas bds bls) (by omega) fun h33 tk33 k33 O33 => ?_)
  have w2 : (99 : Int) ∉ row := fun hm => by have := (hdg.2 99 hm).2; omega
  have w3 : (99 : Int) ∉ shp := fun hm => by have := (hsd 99 hm).2; omega
  rw [addL_of_not w2] at O33
  obtain ⟨⟨ot, vst, nst, hat, hlt', Ot, It⟩, hdt, -, -, -⟩ := O33
  have F33 := fr_kept F32 k33 (by simp; exact ⟨fun e => (N32 (as, os) (by simp)).2.1 e.symm, fun e => (N32 (Dt, PySem.W.listOf vss.toArray nss) (by simp)).2.1 e.symm⟩) (fun b hb' => by
    simp only [List.mem_cons, List.not_mem_nil, or_false] at hb'
    rcases hb' with rfl | rfl
    · exact bas
    · exact bls)
  have N33 : News g L' h33 [(as, ot), (dxs, dictObj), (Dt, PySem.W.listOf vst.toArray nst), (a0, o0), (dx0, dictObj), (l0, PySem.W.listOf vs0.toArray n0), (Ds, PySem.W.listOf vs4.toArray ns4), (Dr, LCg.lst ws), (L' + 1 + 1, o2), (L' + 1, o1)] := fun p hp => by
    rcases List.mem_cons.mp hp with rfl | hp
    · exact ⟨hat, (N32 (as, os) (.head _)).2⟩
    rcases List.mem_cons.mp hp with rfl | hp
    · exact ⟨hdt, (N32 (dxs, dictObj) (.tail _ (.head _))).2⟩
    rcases List.mem_cons.mp hp with rfl | hp
    · exact ⟨hlt', (N32 (Dt, PySem.W.listOf vss.toArray nss) (.tail _ (.tail _ (.head _)))).2⟩
    · have q := N32 p (.tail _ (.tail _ (.tail _ hp)))
      exact ⟨k33 _ _ (x1 p.1 (List.mem_map_of_mem (f := (·.1)) hp)) q.1, q.2⟩
  clear F32 N32 hat hdt hlt'
  k_steps
  rename_i Dq us35 h35 F35 N35 I35 _
  unfold Hold
  refine eq_self ⟨_, N35.get (a := Dt) (by k_mem), rfl, _, rfl⟩ It ⟨_, N35.get (a := Dq) (by k_mem), rfl, _, rfl⟩ I35 rfl hun ?_
  k_steps
  refine in_yes F35 KX N35 (by k_mem) Ot (by simp; unfold scanBound; omega) (by simp) ?_
  k_steps
  refine list_S (Y.down (A' := _) (d' := 870) Cg F35.keep (by show A.depth + 1 + 700 ≤ A.depth + 870; omega) (by show A.units + 3 + 700 * 8 ≤ A.units + 870 * 8; omega) rfl) (.mk' (N35.get (a := a0) (by k_mem)) (N35.get (a := dx0) (by k_mem)) (N35.get (a := l0) (by k_mem)) O0 I0 ba0 bd0 bl0) (by omega) fun h36 tk36 D36 n36 vs36 k36 f36 I36 e36 => ?_
  have F36 := fr_kept0 F35 k36
  have N36 := news_kept0 N35 k36
  clear F35 N35
  k_steps
  unfold Hold
  refine eq_self ⟨_, e36, rfl, _, rfl⟩ I36 ⟨_, N36.get (a := Ds) (by k_mem), rfl, _, rfl⟩ I4 rfl hun ?_
  k_steps
  refine notin_yes F36 KX N36 (by k_mem) O0 (by unfold scanBound; omega) w3 ?_
  k_steps
  exact h _ _ (kept_all HW hg F36 (by simp))
end Mine
end

open PySem PySem.W PyProof.Rows PySem.Builtin.Frozenset PySem.Calls
set_option Elab.async false
set_option maxRecDepth 100000
set_option maxHeartbeats 4000000
theorem PySem.Challenge.cw_ep5040_01_holds : PySem.Challenge.rw_ep5040_01.Holds := by
  refine Mine.hd ?_
  k_fill
  intro w s₀ s₁ mg mb G Y fa o pm cd doc dV kV ho hd hcd hD hmg hg args vals as hpre hlay hrd hwl hlo
  have KX := kIn_of Y
  refine Ground.open G ?_
  intro T B D TE TW
  wrow_args hpre hlay hrd hwl hlo
  refine enter_call ?_
  have hfa : fa = 267 := by
    have e := mg_of (v := .ref 267) KX T.g (n := Str.ofString "law") (by rfl)
    have e2 : some (Value.ref 267) = some (Value.ref fa) := e.symm.trans hmg
    exact (Value.ref.inj (Option.some.inj e2)).symm
  subst hfa
  rename IntsAre _ _ => hI
  rename Heap.IsList _ _ _ => hL
  refine Mine.law_ct (mg := mg) (mb := mb) (s₀ := s₀) (hb := s₁.heap) ⟨⟨KX, T⟩, fun _ _ e => e, by decide, by decide, rfl⟩ rfl hL hI (by omega) fun h' tk' kk => ?_
  refine GoodW.toG ⟨.inl ⟨.bool true, .bool true, [], rfl, raisesW_false ?_, .bool true, ?_, unshared_nil⟩, fun b o e => kk b o (by simp) e, rfl, hg⟩
  · wrow_none_raised
  · wrow_post
