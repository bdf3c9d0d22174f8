import PyProof.Rows.All
import Wide.All
import OpenK.AllK
import Wide.FinOn
import Lean
import PySem.Challenge.RW_sv0009_01
/- The law of _toposort. A proof by hand: sets, dicts and frames first, then reverse_dict, _law_graph, _toposort, the law's own body, and the joint at the end. -/
set_option Elab.async false
namespace Mine
open PySem PySem.W PyProof.Rows
set_option maxRecDepth 100000 in
set_option maxHeartbeats 8000000 in
open_top hd for PySem.Challenge.rw_sv0009_01
end Mine

-- part A0
section
open PySem PySem.W PyProof.Rows PySem.Calls
set_option maxRecDepth 100000
namespace Mine

def prg : Program := PySem.Challenge.pw_sv0009_01
def stAt (i : Nat) : Stmt := (prg.main.body[i]?).getD (.Pass ⟨0, 0, 0, 0⟩)
def recOf : Stmt → DefRec
  | .FunctionDef n a b _ _ _ sc _ _ pos => ⟨n, a, b, sc, pos⟩
  | _ => ⟨.empty, { posonlyargs := [], args := [], vararg := none, kwonlyargs := [], kw_defaults := [], kwarg := none, defaults := [] }, [], prg.main.scope, ⟨0, 0, 0, 0⟩⟩
def topoD : DefRec := recOf (stAt 1)
def revD : DefRec := recOf (stAt 2)
def graphD : DefRec := recOf (stAt 4)
def lawD : DefRec := recOf (stAt 5)

theorem topo_rec : (recsOf hd.view_39).find? (fun e => e.name == ("_toposort" : Str)) = some topoD := by kernel_rfl
theorem rev_rec : (recsOf hd.view_39).find? (fun e => e.name == ("reverse_dict" : Str)) = some revD := by kernel_rfl
theorem graph_rec : (recsOf hd.view_39).find? (fun e => e.name == ("_law_graph" : Str)) = some graphD := by kernel_rfl
theorem law_rec : (recsOf hd.view_39).find? (fun e => e.name == ("law" : Str)) = some lawD := by kernel_rfl

end Mine
end

-- part A1
section
open PySem PySem.W PyProof.Rows PySem.Calls
set_option maxRecDepth 100000
namespace Mine

def vkey : Value → Int
  | .int i _ => i
  | _ => 0

def IntElems (l : List (Int × Value)) : Prop := ∀ e ∈ l, ∃ k u, e = (hashInt k, Value.int k u)
def keysOf (l : List (Int × Value)) : List Int := l.map fun e => vkey e.2

/-- the set at a holds just the ints ks; its table is led where the world does not draw -/
def SetL (w : World) (h : Heap) (a : Addr) (ks : List Int) : Prop :=
  ∃ o es ep t, h.get? a = some o ∧ o.ExactSet ∧ o.data = .set es ep t ∧ IntElems es.toList ∧ (keysOf es.toList).Perm ks ∧ ks.Nodup ∧ es.size < 1000 ∧
    t.fits es.size = true ∧ (w.params.followText "set-order" = false → t.led = true)

theorem SetL.at {w : World} {h h' : Heap} {a : Addr} {ks : List Int} (x : SetL w h a ks) (k : ∀ o, h.get? a = some o → h'.get? a = some o) : SetL w h' a ks :=
  let ⟨o, es, ep, t, ho, r⟩ := x; ⟨o, es, ep, t, k o ho, r⟩
theorem SetL.live {w : World} {h : Heap} {a : Addr} {ks : List Int} (x : SetL w h a ks) : ∃ o, h.get? a = some o := let ⟨o, _, _, _, ho, _⟩ := x; ⟨o, ho⟩
theorem SetL.nodup {w : World} {h : Heap} {a : Addr} {ks : List Int} (x : SetL w h a ks) : ks.Nodup := let ⟨_, _, _, _, _, _, _, _, _, hn, _⟩ := x; hn
theorem SetL.perm {w : World} {h : Heap} {a : Addr} {ks ks' : List Int} (x : SetL w h a ks) (p : ks.Perm ks') : SetL w h a ks' :=
  let ⟨o, es, ep, t, h1, h2, h3, h4, h5, h6, r⟩ := x; ⟨o, es, ep, t, h1, h2, h3, h4, h5.trans p, p.nodup_iff.mp h6, r⟩

theorem IntElems.elems (prog : Program) (w : World) {l : List (Int × Value)} (h : IntElems l) : ElemsOf (intKind prog w) l := fun e he => by
  obtain ⟨k, u, rfl⟩ := h e he
  exact ⟨⟨k, intKind_is prog w k u, rfl⟩, rfl⟩
theorem IntElems.perm {l l' : List (Int × Value)} (h : IntElems l) (p : l'.Perm l) : IntElems l' := fun e he => h e (p.mem_iff.mp he)
theorem isInt_eq (k i : Int) (u : Tok) : Value.isInt k (.int i u) = (i == k) := rfl

theorem findIdx_none {l : List (Int × Value)} {k : Int} (hl : IntElems l) : (l.findIdx? fun e => Value.isInt k e.2) = none ↔ k ∉ keysOf l := by
  rw [List.findIdx?_eq_none_iff]
  unfold keysOf
  rw [List.mem_map]
  constructor
  · rintro h ⟨e, he, rfl⟩
    obtain ⟨i, u, rfl⟩ := hl e he
    have := h _ he
    simp [Value.isInt, vkey] at this
  · intro h e he
    obtain ⟨i, u, rfl⟩ := hl e he
    rw [isInt_eq, beq_eq_false_iff_ne]
    rintro rfl
    exact h ⟨_, he, rfl⟩
theorem findIdx_some {l : List (Int × Value)} {k : Int} {j : Nat} (hl : IntElems l) (h : (l.findIdx? fun e => Value.isInt k e.2) = some j) : ∃ u, l[j]? = some (hashInt k, .int k u) := by
  obtain ⟨hj, hp, _⟩ := List.findIdx?_eq_some_iff_getElem.mp h
  obtain ⟨i, u, e⟩ := hl _ (List.getElem_mem hj)
  rw [e, isInt_eq, beq_iff_eq] at hp
  subst hp
  exact ⟨u, by rw [List.getElem?_eq_getElem hj, e]⟩

theorem orStandIn_led (t : SetTable) (n : Nat) : (t.orStandIn n).led = t.led := by
  unfold SetTable.orStandIn
  split <;> rfl
theorem layNew_led (t : SetTable) (es : Array (Int × Value)) (h : Int) (x : Value) : (layNew t es h x).2.1.led = t.led := by
  unfold layNew
  split
  · exact orStandIn_led _ _
  · rfl
theorem relayAll_led (t : SetTable) (es : Array (Int × Value)) (n : Nat) : (relayAll t es n).2.1.led = t.led := by
  unfold relayAll
  split
  · rename_i t' order e
    dsimp only
    split
    · unfold SetTable.relaid SetTable.laid at e
      cases hc : SetTable.layClean (SetTable.sizeAbove n - 1) (es.map (·.1)) with
      | none => rw [hc] at e; cases e
      | some o => rw [hc] at e; cases e; rfl
    · rfl
  · rfl

section
variable {prog : Program} {w : World} {A : Around} {E : Value → Shared → Prop} {s : Shared} {a : Addr} {ks : List Int}

theorem storeSetL {o : Obj} {es es' : Array (Int × Value)} {ep : Nat} {t t' : SetTable} {ks' : List Int} {Q : Unit → Shared → Prop} (ho : s.heap.get? a = some o) (hx : o.ExactSet) (hd : o.data = .set es ep t)
    (h1 : IntElems es'.toList) (h2 : (keysOf es'.toList).Perm ks') (h3 : ks'.Nodup) (h4 : es'.size < 1000) (h5 : t'.fits es'.size = true) (h6 : w.params.followText "set-order" = false → t'.led = true)
    (h : ∀ h' o', Heap.SameBut a s.heap h' → h'.get? a = some o' → o'.ExactSet → o'.data = .set es' (ep + 1) t' → SetL w h' a ks' → Q () { s with heap := h' }) :
    wpAny (model prog w) A (storeSet a es' t') Q E s := by
  refine wpAny_storeSet_of ho hd ?_ (by rw [sizeLine_eq]; omega)
  have hg : (s.heap.update a (Obj.putSet es' t')).get? a = some { o with data := .set es' (ep + 1) t' } := by
    have := Heap.get?_update_self (Obj.putSet es' t') ho (by rw [putSet_of es' t' hd]; rfl)
    rw [putSet_of es' t' hd] at this; exact this
  exact h _ _ (Heap.SameBut.update ..) hg hx rfl ⟨_, es', ep + 1, t', hg, hx, rfl, h1, h2, h3, h4, h5, h6⟩

theorem setAddHashed_L {k : Int} {u : Tok} {Q : Bool → Shared → Prop} (hS : SetL w s.heap a ks) (hroom : ks.length + 1 < 1000)
    (h : ∀ h' b, Heap.SameBut a s.heap h' → SetL w h' a (if k ∈ ks then ks else k :: ks) → Q b { s with heap := h' }) :
    wpAny (model prog w) A (setAddHashed a (.int k u) (hashInt k)) Q E s := by
  obtain ⟨o, es, ep, t, ho, hex, hd, hel, hp, hnd, hb, hf, hled⟩ := id hS
  have hel' := hel.elems prog w
  unfold setAddHashed setAddHashedIn
  refine wpAny_holding (wpAny_bind (wpAny_setState_of ho hd hf ?_))
  dsimp only
  rw [byScan_of (knd := intKind prog w) (x := .int k u) rfl (Nat.lt_trans hb (by decide)) hel']
  simp only [↓reduceIte]
  unfold setAddByScan
  refine wpAny_bind (wpAny_bind (wpAny_rule (wpAny_bind (wpAny_setScan_of (knd := intKind prog w) (k := k) (intKind_is prog w k u) ho hd hf hel' ?_))))
  have hmem : k ∈ ks ↔ k ∈ keysOf es.toList := hp.mem_iff.symm
  cases hr : List.findIdx? (fun e => Value.isInt k e.2) es.toList with
  | some j =>
    have hk : k ∈ ks := hmem.mpr (by
      apply Classical.byContradiction
      intro hc
      rw [(findIdx_none hel).mpr hc] at hr; cases hr)
    have hr' : List.findIdx? (fun e => (intKind prog w).is k e.2) es.toList = some j := hr
    rw [hr']
    dsimp only
    refine wpAny_pure (wpAny_pure ?_)
    have := h s.heap false (Heap.SameBut.refl a s.heap) (by rw [if_pos hk]; exact hS)
    exact this
  | none =>
    have hk : k ∉ ks := fun hc => (findIdx_none hel).mp hr (hmem.mp hc)
    have hr' : List.findIdx? (fun e => (intKind prog w).is k e.2) es.toList = none := hr
    rw [hr']
    dsimp only
    have hgw : ∀ (b : Bool) {s₁ : Shared} {Q' : Unit → Shared → Prop}, Q' () s₁ → wpAny (model prog w) A (match b with | true => rule "set.scan.the-table-gave-way" | false => pure ()) Q' E s₁ :=
      fun b s₁ Q' hq => by cases b <;> first | exact wpAny_pure hq | exact wpAny_rule hq
    have hperm := layNew_perm t es (hashInt k) (.int k u)
    have hfits := layNew_fits t es (hashInt k) (.int k u)
    have hled1 := layNew_led t es (hashInt k) (.int k u)
    generalize hL : layNew t es (hashInt k) (.int k u) = L at hperm hfits hled1
    have hL' : layNew t es ((intKind prog w).hash k) (.int k u) = L := hL
    try rw [hL]
    try rw [hL']
    obtain ⟨es1, t1, wasDummy, gave⟩ := L
    dsimp only at hperm hfits hled1 ⊢
    rw [Array.toList_push] at hperm
    have hel1 : IntElems es1.toList := fun e he => by
      rcases List.mem_append.mp (hperm.mem_iff.mp he) with he | he
      · exact hel e he
      · exact ⟨k, u, List.mem_singleton.mp he⟩
    have hp1 : (keysOf es1.toList).Perm (k :: ks) := by
      have e1 := hperm.map (fun e : Int × Value => vkey e.2)
      rw [List.map_append] at e1
      exact e1.trans ((List.perm_append_singleton k _).trans (hp.cons k))
    have hnd1 : (k :: ks).Nodup := List.nodup_cons.mpr ⟨hk, hnd⟩
    have hsz1 : es1.size = ks.length + 1 := by
      have := hp1.length_eq
      simpa [keysOf] using this
    have hb1 : es1.size < 1000 := by rw [hsz1]; exact hroom
    have fin : ∀ (g : Bool → Sem Unit) (t2 : SetTable), (∀ (b : Bool) (s₁ : Shared) (Q' : Unit → Shared → Prop), Q' () s₁ → wpAny (model prog w) A (g b) Q' E s₁) → t2.fits es1.size = true → t2.led = t1.led →
        ∀ R : Option Bool → Shared → Prop, (∀ h' b, Heap.SameBut a s.heap h' → SetL w h' a (k :: ks) → R (some b) { s with heap := h' }) →
        wpAny (model prog w) A (do
          storeSet a es1 t2
          if (!wasDummy && t2.tooFull) = true then do
              g (relayAll t2 es1 (SetTable.grown es1.size)).2.2
              storeSet a (relayAll t2 es1 (SetTable.grown es1.size)).1 (relayAll t2 es1 (SetTable.grown es1.size)).2.1
              pure (some true)
            else pure (some true)) R E s := by
      intro g t2 hg hf2 hl2 R hR
      refine wpAny_bind (storeSetL ho hex hd hel1 hp1 hnd1 hb1 hf2 (fun q => by rw [hl2, hled1]; exact hled q) fun h' o' hs' ho' hx' hd' hS' => ?_)
      split
      · have hp2 := relayAll_perm t2 es1 (SetTable.grown es1.size)
        have hf3 := relayAll_fits t2 es1 (SetTable.grown es1.size)
        have hl3 := relayAll_led t2 es1 (SetTable.grown es1.size)
        generalize relayAll t2 es1 (SetTable.grown es1.size) = Rl at hp2 hf3 hl3 ⊢
        obtain ⟨es2, t3, gave2⟩ := Rl
        dsimp only at hp2 hf3 hl3 ⊢
        have hsz2 : es2.size = es1.size := by simpa using hp2.length_eq
        refine wpAny_bind (hg _ _ _ ?_)
        refine wpAny_bind (storeSetL (s := { s with heap := h' }) ho' hx' hd' (hel1.perm hp2) ((hp2.map _).trans hp1) hnd1 (by rw [hsz2]; exact hb1) hf3 (fun q => by rw [hl3, hl2, hled1]; exact hled q) fun h'' o'' hs'' ho'' hx'' hd'' hS'' => ?_)
        exact wpAny_pure (hR _ _ (hs'.trans hs'') hS'')
      · exact wpAny_pure (hR _ _ hs' hS')
    have hend : ∀ h' b, Heap.SameBut a s.heap h' → SetL w h' a (k :: ks) → Q b { s with heap := h' } := fun h' b hs' hS' => h h' b hs' (by rw [if_neg hk]; exact hS')
    refine wpAny_bind (hgw _ ?_)
    split
    · refine wpAny_bind ?_
      rw [hashByValue_scannable 8 (x := .int k u) rfl]
      refine wpAny_pure ?_
      refine fin _ _ ?_ ?_ ?_ _ ?_
      · intro b s₁ Q' hq; cases b <;> first | exact wpAny_pure hq | exact wpAny_rule hq
      · split
        · exact hfits
        · exact SetTable.fits_plain_off hfits
      · split <;> rfl
      · intro h' b hs' hS'; dsimp only; exact wpAny_pure (hend h' b hs' hS')
    · refine wpAny_bind (wpAny_pure ?_)
      simp only [↓reduceIte]
      refine fin _ _ ?_ hfits rfl _ ?_
      · intro b s₁ Q' hq; cases b <;> first | exact wpAny_pure hq | exact wpAny_rule hq
      · intro h' b hs' hS'; dsimp only; exact wpAny_pure (hend h' b hs' hS')

theorem setAdd_L {k : Int} {u : Tok} {Q : Bool → Shared → Prop} (hS : SetL w s.heap a ks) (hroom : ks.length + 1 < 1000)
    (h : ∀ h' b, Heap.SameBut a s.heap h' → SetL w h' a (if k ∈ ks then ks else k :: ks) → Q b { s with heap := h', toks := s.toks + 1 }) :
    wpAny (model prog w) A (setAdd a (.int k u)) Q E s := by
  unfold setAdd
  refine wpAny_holding (wpAny_bind (wpAny_pyHash_int ?_))
  exact setAddHashed_L (s := { s with toks := s.toks + 1 }) hS hroom h

theorem SetL.typeIs (hS : SetL w s.heap a ks) : s.TypeIs (.ref a) "set" := let ⟨o, _, _, _, ho, hx, _⟩ := hS; ⟨o, ho, hx.1⟩
theorem SetL.noDict (hS : SetL w s.heap a ks) : ∀ b, Value.ref a = .ref b → ∃ ob, s.heap.get? b = some ob ∧ ob.dict = none :=
  fun b e => by injection e with e; subst e; exact let ⟨o, _, _, _, ho, hx, _⟩ := hS; ⟨o, ho, hx.2.1⟩
theorem SetL.setOf (prog : Program) (hS : SetL w s.heap a ks) : s.heap.SetOf (intKind prog w) a (fun k => decide (k ∈ ks)) ks.length := by
  obtain ⟨o, es, ep, t, ho, hex, hd, hel, hp, hnd, hb, hf, hled⟩ := hS
  refine ⟨o, es, ep, t, ho, hex, hd, hel.elems prog w, fun k => ?_, Nat.lt_trans hb (by decide), hf, by simpa [keysOf] using hp.length_eq⟩
  rw [decide_eq_true_eq, ← hp.mem_iff]
  unfold keysOf
  rw [List.mem_map]
  constructor
  · rintro ⟨e, he, rfl⟩
    obtain ⟨i, u, rfl⟩ := hel e he
    exact ⟨_, he, intKind_is prog w i u⟩
  · rintro ⟨e, he, hk⟩
    obtain ⟨i, u, rfl⟩ := hel e he
    have hk' : Value.isInt k (.int i u) = true := hk
    rw [isInt_eq, beq_iff_eq] at hk'
    subst hk'
    exact ⟨_, he, rfl⟩

theorem call_add_L {k : Int} {u : Tok} {Q : Value → Shared → Prop} (hS : SetL w s.heap a ks) (hroom : ks.length + 1 < 1000)
    (h : ∀ h', Heap.SameBut a s.heap h' → SetL w h' a (if k ∈ ks then ks else k :: ks) → Q .none { s with heap := h', toks := s.toks + 1 }) :
    wpAny (model prog w) A (call (.builtin "set.add") [.ref a, .int k u]) Q E s := by
  refine wpAny_call_entry PySem.F.slot_set_add hS.typeIs PySem.F.entry_set_add ?_ (PySem.F.args_set_add_2 _ _)
  show wpAny _ _ (setAdd a (.int k u) >>= fun _ => ret Value.none) _ _ s
  refine wpAny_bind (setAdd_L hS hroom fun h' b hs' hS' => ?_)
  exact wpAny_pure ⟨_, rfl, h h' hs' hS'⟩

theorem toList_eraseAt {α : Type} (xs : Array α) (p : Nat) : (SetTable.eraseAt xs p).toList = xs.toList.eraseIdx p := by
  simp [SetTable.eraseAt, List.extract_eq_take_drop, List.eraseIdx_eq_take_drop_succ, List.take_of_length_le]

theorem size_eraseAt {α : Type} (xs : Array α) (p : Nat) (hp : p < xs.size) : (SetTable.eraseAt xs p).size = xs.size - 1 := by
  rw [← Array.length_toList, toList_eraseAt, List.length_eraseIdx]
  simp [hp]
theorem size_insertAt {α : Type} (xs : Array α) (p : Nat) (x : α) : (SetTable.insertAt xs p x).size = xs.size + 1 := by
  rw [← Array.length_toList, (SetTable.insertAt_perm xs p x).length_eq]; simp

theorem drop_fits {t : SetTable} {n i : Nat} (hf : t.fits n = true) (hi : i < n) : (t.drop i).fits (n - 1) = true := by
  simp only [SetTable.fits, Bool.and_eq_true, beq_iff_eq, decide_eq_true_eq] at hf ⊢
  have hlt : i < t.place.size := by rw [hf.1]; exact hi
  unfold SetTable.drop
  rw [Array.getElem?_eq_getElem hlt]
  dsimp only
  unfold SetTable.fill at hf ⊢
  dsimp only
  rw [size_eraseAt _ _ hlt, size_insertAt]
  exact ⟨by rw [hf.1], by omega⟩
theorem drop_led (t : SetTable) (i : Nat) : (t.drop i).led = t.led := by
  unfold SetTable.drop; split <;> rfl

theorem eraseIdx_perm' {α : Type} : ∀ (l : List α) (i : Nat) (x : α), l[i]? = some x → (x :: l.eraseIdx i).Perm l
  | [], i, x, h => by simp at h
  | y :: r, 0, x, h => by simp at h; subst h; exact .rfl
  | y :: r, i + 1, x, h => by
    simp only [List.getElem?_cons_succ] at h
    exact (List.Perm.swap y x _).trans ((eraseIdx_perm' r i x h).cons y)
theorem map_eraseIdx' {α β : Type} (f : α → β) : ∀ (l : List α) (i : Nat), (l.eraseIdx i).map f = (l.map f).eraseIdx i
  | [], i => rfl
  | y :: r, 0 => rfl
  | y :: r, i + 1 => by simp only [List.eraseIdx_cons_succ, List.map_cons, map_eraseIdx' f r i]

theorem erase_keys {l : List (Int × Value)} {ks : List Int} {i : Nat} {k : Int} {u : Tok} (hp : (keysOf l).Perm ks) (hi : l[i]? = some (hashInt k, .int k u)) : (keysOf (l.eraseIdx i)).Perm (ks.erase k) := by
  have e1 : (keysOf l)[i]? = some k := by unfold keysOf; rw [List.getElem?_map, hi]; rfl
  have e2 : keysOf (l.eraseIdx i) = (keysOf l).eraseIdx i := map_eraseIdx' _ l i
  have hp2 : (k :: keysOf (l.eraseIdx i)).Perm ks := by
    rw [e2]; exact (eraseIdx_perm' _ i k e1).trans hp
  have := hp2.erase k
  rwa [List.erase_cons_head] at this

theorem setPop_L {Q : Option Value → Shared → Prop} (hS : SetL w s.heap a ks) (hne : ks ≠ [])
    (h : ∀ h' dr k u, k ∈ ks → Heap.SameBut a s.heap h' → SetL w h' a (ks.erase k) → Q (some (.int k u)) { s with heap := h', drawn := dr }) :
    wpAny (model prog w) A (setPop a) Q E s := by
  obtain ⟨o, es, ep, t, ho, hex, hd, hel, hp, hnd, hb, hf, hled⟩ := id hS
  have hlen : es.size = ks.length := by simpa [keysOf] using hp.length_eq
  have hpos : 0 < es.size := by rw [hlen]; exact List.length_pos_iff.mpr hne
  have hf' := hf
  simp only [SetTable.fits, Bool.and_eq_true, beq_iff_eq, decide_eq_true_eq] at hf'
  have fin : ∀ (i : Nat) (dr : Drawn), i < es.size → wpAny (model prog w) A (do
      let some (_, x) := es[i]? | unsupported "internal:set.pop"
      storeSet a (SetTable.eraseAt es i) (t.popped i)
      return some x) Q E { s with drawn := dr } := by
    intro i dr hi
    obtain ⟨k, u, e⟩ := hel _ (List.getElem_mem (l := es.toList) (n := i) (by simpa using hi))
    have e' : es[i]? = some (hashInt k, .int k u) := by
      rw [Array.getElem?_eq_getElem hi]
      have : es.toList[i]'(by simpa using hi) = es[i] := Array.getElem_toList ..
      rw [← this, e]
    have e'' : es.toList[i]? = some (hashInt k, .int k u) := by rw [Array.getElem?_toList]; exact e'
    rw [e']
    dsimp only
    have hk : k ∈ ks := by
      refine hp.mem_iff.mp ?_
      unfold keysOf
      exact List.mem_map.mpr ⟨_, List.mem_of_getElem? e'', rfl⟩
    refine wpAny_bind (storeSetL (s := { s with drawn := dr }) (ks' := ks.erase k) ho hex hd ?_ ?_ ?_ ?_ ?_ ?_ fun h' o' hs' ho' hx' hd' hS' => ?_)
    · rw [toList_eraseAt]; exact fun e he => hel e (List.mem_of_mem_eraseIdx he)
    · rw [toList_eraseAt]; exact erase_keys hp e''
    · exact hnd.erase k
    · rw [size_eraseAt _ _ hi]; omega
    · rw [size_eraseAt _ _ hi]; exact drop_fits hf hi
    · intro q; show (t.drop i).led = true; rw [drop_led]; exact hled q
    · exact wpAny_pure (h h' dr k u hk hs' hS')
  unfold setPop
  refine wpAny_bind (wpAny_setState_of ho hd hf ?_)
  dsimp only
  obtain ⟨bf, hbf, hlt⟩ : ∃ j, t.popPlace = some j ∧ j < es.size := by
    unfold SetTable.popPlace
    have he : t.place.isEmpty = false := by
      rw [Array.isEmpty_eq_false_iff]; intro q; rw [q] at hf'; simp at hf'; omega
    rw [he]
    dsimp only
    by_cases hl : SetTable.below t.place (t.finger % (t.mask + 1)) < t.place.size
    · exact ⟨SetTable.below t.place (t.finger % (t.mask + 1)), by simp [hl], by omega⟩
    · exact ⟨0, by simp [hl], hpos⟩
  rw [hbf]
  dsimp only
  unfold setsByText
  refine wpAny_bind (wpAny_bind (wpAny_askSetting (wpAny_pure ?_)))
  split
  · refine wpAny_bind (fun Γ p _ => ⟨Nat.ne_of_gt hpos, ?_⟩)
    rw [Sem.wp_pure]
    exact fin (w.draws .order (s.drawn.get .order) % es.size) (s.drawn.bump .order) (Nat.mod_lt _ hpos)
  · rename_i hc
    have hby : w.params.followText "set-order" = false := by
      cases hq : w.params.followText "set-order" with
      | false => rfl
      | true => exact absurd (by simp [model, hq]) hc
    have hl := hled hby
    show wpAny _ _ ((if (!t.led && decide (es.size > 1)) = true then unsupported "set:maker-not-led" else pure ()) >>= _) _ _ _
    rw [hl]
    refine wpAny_bind (wpAny_pure ?_)
    exact wpAny_bind (wpAny_pure (fin bf s.drawn hlt))

theorem call_pop_L {Q : Value → Shared → Prop} (hS : SetL w s.heap a ks) (hne : ks ≠ [])
    (h : ∀ h' dr k u, k ∈ ks → Heap.SameBut a s.heap h' → SetL w h' a (ks.erase k) → Q (.int k u) { s with heap := h', drawn := dr }) :
    wpAny (model prog w) A (call (.builtin "set.pop") [.ref a]) Q E s := by
  refine wpAny_call_entry PySem.F.slot_set_pop hS.typeIs PySem.F.entry_set_pop ?_ (PySem.F.args_set_pop_1 _)
  show wpAny _ _ (setPop a >>= _) _ _ s
  refine wpAny_bind (setPop_L hS hne fun h' dr k u hk hs' hS' => ?_)
  exact wpAny_pure ⟨_, rfl, h h' dr k u hk hs' hS'⟩

theorem setDiscard_L {k : Int} {u : Tok} {Q : Bool → Shared → Prop} (hS : SetL w s.heap a ks) (hk : k ∈ ks)
    (h : ∀ h', Heap.SameBut a s.heap h' → SetL w h' a (ks.erase k) → Q true { s with heap := h', toks := s.toks + 1 }) :
    wpAny (model prog w) A (setDiscard a (.int k u)) Q E s := by
  obtain ⟨o, es, ep, t, ho, hex, hd, hel, hp, hnd, hb, hf, hled⟩ := id hS
  have hel' := hel.elems prog w
  unfold setDiscard
  refine wpAny_holding (wpAny_bind (wpAny_pyHash_int ?_))
  unfold setDiscardHashed
  refine wpAny_bind ?_
  unfold setFind setFindIn
  refine wpAny_bind (wpAny_setState_of (s := { s with toks := s.toks + 1 }) ho hd hf ?_)
  dsimp only
  rw [byScan_of (knd := intKind prog w) (x := .int k u) rfl (Nat.lt_trans hb (by decide)) hel']
  simp only [↓reduceIte]
  refine wpAny_bind (wpAny_rule (wpAny_bind (wpAny_setScan_of (s := { s with toks := s.toks + 1 }) (knd := intKind prog w) (k := k) (intKind_is prog w k u) ho hd hf hel' ?_)))
  cases hr : List.findIdx? (fun e => Value.isInt k e.2) es.toList with
  | none => exact absurd (hp.mem_iff.mpr hk) ((findIdx_none hel).mp hr)
  | some j =>
    have hr' : List.findIdx? (fun e => (intKind prog w).is k e.2) es.toList = some j := hr
    obtain ⟨u', e''⟩ := findIdx_some hel hr
    have hj : j < es.size := by simpa using (List.getElem?_eq_some_iff.mp e'').1
    rw [hr']
    dsimp only
    rw [Nat.zero_add]
    refine wpAny_pure ?_
    dsimp only
    refine wpAny_bind (wpAny_setState_of (s := { s with toks := s.toks + 1 }) ho hd hf ?_)
    dsimp only
    refine wpAny_bind (storeSetL (s := { s with toks := s.toks + 1 }) (ks' := ks.erase k) ho hex hd ?_ ?_ ?_ ?_ ?_ ?_ fun h' o' hs' ho' hx' hd' hS' => ?_)
    · rw [toList_eraseAt]; exact fun e he => hel e (List.mem_of_mem_eraseIdx he)
    · rw [toList_eraseAt]; exact erase_keys hp e''
    · exact hnd.erase k
    · rw [size_eraseAt _ _ hj]; omega
    · rw [size_eraseAt _ _ hj]; exact drop_fits hf hj
    · intro q; rw [drop_led]; exact hled q
    · exact wpAny_bind (wpAny_point (wpAny_pure (h h' hs' hS')))

theorem call_remove_L {k : Int} {u : Tok} {Q : Value → Shared → Prop} (hS : SetL w s.heap a ks) (hk : k ∈ ks)
    (h : ∀ h', Heap.SameBut a s.heap h' → SetL w h' a (ks.erase k) → Q .none { s with heap := h', toks := s.toks + 1 }) :
    wpAny (model prog w) A (call (.builtin "set.remove") [.ref a, .int k u]) Q E s := by
  refine wpAny_call_entry PySem.F.slot_set_remove hS.typeIs PySem.F.entry_set_remove ?_ (PySem.F.args_set_remove_2 _ _)
  unfold Builtin.«set.remove» Builtin.Frozenset.oneOther
  simp only [List.isEmpty_nil, bind_assoc]
  unfold Builtin.Frozenset.addrOf Builtin.Frozenset.withSetAsKey
  refine wpAny_bind (wpAny_pure ?_)
  try dsimp only
  refine wpAny_bind (wpAny_pure ?_)
  try dsimp only
  refine wpAny_bind (wpAny_tryCatch ?_)
  refine setDiscard_L hS hk fun h' hs' hS' => ?_
  show wpAny _ _ (ret Value.none) _ _ _
  exact wpAny_pure ⟨_, rfl, h h' hs' hS'⟩

theorem in_L {k : Int} {u : Tok} {Q : Value → Shared → Prop} (hS : SetL w s.heap a ks) (h : Q (.bool (decide (k ∈ ks))) { s with toks := s.toks + 1 }) :
    wpAny (model prog w) A (compareOp .In (.int k u) (.ref a)) Q E s :=
  wpAny_inSet_of (knd := intKind prog w) (intKind_is prog w k u) rfl (hS.setOf prog) h

theorem noBool_set : typeLookup (.type "set") "__bool__" = pure none := by rw [typeLookup_type, builtinLookup_eq_fast]; kernel_rfl

theorem truthy_L {Q : Bool → Shared → Prop} (hS : SetL w s.heap a ks) (h : ∀ tk, Q (!ks.isEmpty) { s with toks := tk }) : wpAny (model prog w) A (truthy (.ref a)) Q E s := by
  obtain ⟨o, es, ep, t, ho, hex, hd, hel, hp, hnd, hb, hf, hled⟩ := id hS
  have hlen : es.size = ks.length := by simpa [keysOf] using hp.length_eq
  have hfit : (es.size : Int) < 2 ^ 63 := by omega
  have hne : ((es.size : Int) != 0) = !ks.isEmpty := by rw [hlen]; cases ks <;> simp <;> omega
  have key : wpAny (model prog w) A (runValue (.builtin "len" ⟨[.ref a], []⟩)) (fun r s' => r = .int es.size (s.toks + 1) ∧ Q (!ks.isEmpty) s') E s := by
    refine wpAny_runValue (codeAny_builtin entry_len ?_)
    rw [Around.under_plainId plain_len _]
    exact wpAny_mono (wpAny_len_body_set (Q := fun r s' => r = .int es.size (s.toks + 1) ∧ Q (!ks.isEmpty) s') ho hex hd hf hfit ⟨rfl, h _⟩)
      (fun fin s' h' => by obtain ⟨r, rfl, hq⟩ := h'; exact hq) fun _ _ e => e
  unfold truthy
  refine wpAny_bind (wpAny_callSpecial?_none (name := Str.ofString "__bool__") hS.typeIs noBool_set ?_)
  refine wpAny_bind (wpAny_specialOf (name := Str.ofString "__len__") hS.typeIs PySem.F.slot_set_len.lookup ?_)
  exact wpAny_bind (wpAny_mono key (fun r s' h' => by obtain ⟨rfl, hq⟩ := h'; exact wpAny_pure (hne ▸ hq)) fun _ _ e => e)
end
end Mine
end

-- part A2
section
open PySem PySem.W PyProof.Rows PySem.Calls
set_option maxRecDepth 100000
namespace Mine

/-- all that stood at h stands at h', the places of W aside -/
def Fm (W : List Addr) (h h' : Heap) : Prop := ∀ b o, b ∉ W → h.get? b = some o → h'.get? b = some o
namespace Fm
variable {W W' : List Addr} {h h' h'' : Heap} {a : Addr}
theorem refl : Fm W h h := fun _ _ _ e => e
theorem trans (x : Fm W h h') (y : Fm W h' h'') : Fm W h h'' := fun b o hb e => y b o hb (x b o hb e)
theorem mono (x : Fm W h h') (hs : ∀ b ∈ W, b ∈ W') : Fm W' h h' := fun b o hb e => x b o (fun q => hb (hs b q)) e
theorem same (x : Heap.SameBut a h h') (ha : a ∈ W) : Fm W h h' := fun b o hb e => x.extBut b o (fun q => hb (q ▸ ha)) e
theorem ext (x : Heap.ExtBut a h h') (ha : a ∈ W) : Fm W h h' := fun b o hb e => x b o (fun q => hb (q ▸ ha)) e
theorem push (x : Fm W h h') (o : Obj) : Fm W h (h'.push o) := fun b o' hb e => Heap.get?_push_of_some o (x b o' hb e)
theorem keep (x : ∀ b o, h.get? b = some o → h'.get? b = some o) : Fm W h h' := fun b o _ e => x b o e
theorem fresh (x : Fm W h h') (ha : a ∉ W) (hn : h'.get? a = none) : h.get? a = none := by
  cases q : h.get? a with
  | none => rfl
  | some o => rw [x a o ha q] at hn; cases hn
/-- what W names was not there -/
theorem drop (x : Fm W h h') (hW : ∀ b ∈ W, h.get? b = none) : ∀ b o, h.get? b = some o → h'.get? b = some o := fun b o e => x b o (fun q => by rw [hW b q] at e; cases e) e
end Fm
theorem get_size (h : Heap) : h.get? h.objs.size = none := by
  cases q : h.get? h.objs.size with
  | none => rfl
  | some o => exact absurd (Heap.lt_size q) (Nat.lt_irrefl _)
theorem ne_of_get {h : Heap} {a b : Addr} {o : Obj} (ha : h.get? a = some o) (hb : h.get? b = none) : a ≠ b := fun e => by rw [e, hb] at ha; cases ha
theorem ne_of_get' {h : Heap} {a b : Addr} (ha : ∃ o, h.get? a = some o) (hb : h.get? b = none) : a ≠ b := let ⟨_, e⟩ := ha; ne_of_get e hb

def upd (m : Str → Option Value) (x : Str) (v : Value) : Str → Option Value := fun y => if y = x then some v else m y
theorem upd_same {m : Str → Option Value} {x : Str} {v : Value} : upd m x v x = some v := if_pos rfl
theorem upd_ne {m : Str → Option Value} {x y : Str} {v : Value} (h : y ≠ x) : upd m x v y = m y := if_neg h

section
variable {prog : Program} {w : World} {A : Around} {E : Value → Shared → Prop} {s : Shared} {env : Env}

theorem For_J {Q : Flow → Shared → Prop} {x : Str} {px pos : Pos} {iter : Expr} {body : List Stmt} (hx : env.kindOf x = some .local)
    (hp : (env.scope.kind == .class || (env.scope.kind == .module && env.locals != env.globals)) = false)
    (h : wpAny (model prog w) A (eval iter env) (fun xv s₁ => wpAny (model prog w) A (pyIter xv) (fun it s₂ =>
      ∃ (I : Addr) (fp wr : List Addr) (n : Nat) (P : Nat → Value → Prop) (St : Nat → Heap → Prop) (m : Str → Option Value) (J : Nat → (Str → Option Value) → Shared → Prop),
        it = .ref I ∧ Walks prog w A I fp wr n P St ∧ env.locals ∉ fp ∧ St 0 s₂.heap ∧ s₂.heap.Ns env.locals m ∧ J 0 m s₂ ∧
        (∀ i m s h' tk, J i m s → Fm (env.locals :: wr) s.heap h' → J i m { s with heap := h', toks := tk }) ∧
        (∀ i v m s, i < n → P i v → J i m s → St (i + 1) s.heap → s.heap.Ns env.locals (upd m x v) →
          wpAny (model prog w) A (execs body env) (fun f s₃ => match f with
            | .next | .cont => ∃ m', s₃.heap.Ns env.locals m' ∧ (∀ b ∈ fp, ∀ o, s.heap.get? b = some o → s₃.heap.get? b = some o) ∧ J (i + 1) m' s₃
            | .brk => Q .next s₃
            | .ret v => Q (.ret v) s₃) (fun _ _ => False) s) ∧
        (∀ m s, J n m s → s.heap.Ns env.locals m → Q .next s)) E s₁) E s)
    (hs : ∀ x, foldedSetIterable iter env x = pure x := by intro _; rfl) :
    wpAny (model prog w) A (exec (.For (.Name x px) iter body [] pos) env) Q E s := by
  refine wpAny_For (wpAny_mono h (fun xv s₁ h₁ => wpAny_mono h₁ (fun it s₂ h₂ => ?_) fun _ _ e => e) fun _ _ e => e) hs
  obtain ⟨I, fp, wr, n, P, St, m, J, rfl, W, hLf, hst, hn, hJ, stable, step, done⟩ := h₂
  have hLw : env.locals ∉ wr := fun q => hLf (W.sub _ q)
  refine codeAny_forLoop (fun k s' => ∃ i m, k = n + 1 - i ∧ i ≤ n ∧ St i s'.heap ∧ s'.heap.Ns env.locals m ∧ J i m s') ?_ (n + 1) ⟨0, m, rfl, Nat.zero_le _, hst, hn, hJ⟩
  rintro k s' ⟨i, m, rfl, hi, hst', hn', hJ'⟩
  by_cases hlt : i < n
  · refine W.item i _ _ _ hlt hst' fun v h₁ tk₁ hP hst₁ hk₁ => ?_
    have hn₁ : h₁.Ns env.locals m := hn'.at' fun o e => hk₁ _ o hLw e
    refine wpAny_assign_Name (wpAny_storeName_local hx hn₁ (fun h₂ hn₂ hs₂ => ?_) hp)
    have hst₂ : St (i + 1) h₂ := W.frame _ _ _ hst₁ fun b hb o e => (hs₂.2 b fun q => hLf (q ▸ hb)).trans e
    have hJ₂ : J i m { s' with heap := h₂, toks := tk₁ + 1 } := stable i m s' h₂ (tk₁ + 1) hJ' fun b o hb e =>
      hs₂.extBut b o (fun q => hb (q ▸ List.mem_cons_self)) (hk₁ b o (fun q => hb (List.mem_cons_of_mem _ q)) e)
    refine wpAny_mono (step i v m _ hlt hP hJ₂ hst₂ hn₂) (fun f s₃ h₃ => ?_) fun _ _ e => e.elim
    cases f with
    | ret v => exact h₃
    | brk => exact h₃
    | cont => obtain ⟨m', hn₃, hk₃, hJ₃⟩ := h₃; exact ⟨n + 1 - (i + 1), by omega, i + 1, m', rfl, hlt, W.frame _ _ _ hst₂ hk₃, hn₃, hJ₃⟩
    | next => obtain ⟨m', hn₃, hk₃, hJ₃⟩ := h₃; exact ⟨n + 1 - (i + 1), by omega, i + 1, m', rfl, hlt, W.frame _ _ _ hst₂ hk₃, hn₃, hJ₃⟩
  · have hin : i = n := by omega
    subst hin
    refine W.done _ _ _ hst' fun h₁ tk₁ hk₁ => wpAny_execs_nil ?_
    exact done m _ (stable i m s' h₁ tk₁ hJ' fun b o hb e => hk₁ b o (fun q => hb (List.mem_cons_of_mem _ q)) e) (hn'.at' fun o e => hk₁ _ o hLw e)

/-- the world's names, at one heap -/
structure Gl (mg mb : Str → Option Value) (h : Heap) : Prop where
  g : h.Ns mainGlobals mg
  b : h.Ns builtinsNs mb
  nl : h.NoLimit
  bt : ∀ x : Str, x ≠ "__name__" → mb x = bootBuiltins x
theorem Gl.keeps {mg mb : Str → Option Value} {h h' : Heap} (G : Gl mg mb h) (k : ∀ b o, h.get? b = some o → h'.get? b = some o) : Gl mg mb h' :=
  ⟨G.g.keeps k, G.b.keeps k, G.nl.keeps k, G.bt⟩

theorem nm_loc {x : Str} {pos : Pos} {m : Str → Option Value} {v : Value} {Q : Value → Shared → Prop} (hn : s.heap.Ns env.locals m) (hv : m x = some v) (h : Q v s)
    (hk : env.scope.kind = .function := by rfl) (hl : env.kindOf x = some .local := by rfl) (hd : (x == ("__debug__" : Str)) = false := by decide) :
    wpAny (model prog w) A (eval (.Name x pos) env) Q E s := wpAny_Name (wpAny_loadName_local hk hl hn hv h) hd
theorem nm_cell {x : Str} {pos : Pos} {c : Addr} {v : Value} {Q : Value → Shared → Prop} (hc : env.cells.lookup x = some c) (hv : s.heap.IsCell c (some v)) (h : Q v s)
    (hk : env.scope.kind = .function := by rfl) (hl : env.kindOf x = some .cell := by rfl) (hd : (x == ("__debug__" : Str)) = false := by decide) :
    wpAny (model prog w) A (eval (.Name x pos) env) Q E s := wpAny_Name (wpAny_loadName_cell hk hl hc hv h) hd
theorem nm_free {x : Str} {pos : Pos} {c : Addr} {v : Value} {Q : Value → Shared → Prop} (hc : env.cells.lookup x = some c) (hv : s.heap.IsCell c (some v)) (h : Q v s)
    (hk : env.scope.kind = .function := by rfl) (hl : env.kindOf x = some .free := by rfl) (hd : (x == ("__debug__" : Str)) = false := by decide) (hcd : (x == ("__classdict__" : Str)) = false := by decide) :
    wpAny (model prog w) A (eval (.Name x pos) env) Q E s := wpAny_Name (wpAny_loadName_free hk hl hc hv h hcd) hd
theorem nm_built {x : Str} {pos : Pos} {mg mb : Str → Option Value} {v : Value} {Q : Value → Shared → Prop} (G : Gl mg mb s.heap) (hm : mg x = none) (hv : bootBuiltins x = some v) (h : Q v s)
    (hk : env.scope.kind = .function := by rfl) (hx : env.kindOf x = some .globalImplicit := by rfl) (heg : env.globals = mainGlobals := by rfl) (heb : env.builtins = builtinsNs := by rfl)
    (hn : x ≠ "__name__" := by decide) (hd : (x == ("__debug__" : Str)) = false := by decide) :
    wpAny (model prog w) A (eval (.Name x pos) env) Q E s :=
  Name_function_global hk hx (loadGlobal_builtin (heg ▸ G.g) hm (heb ▸ G.b) ((G.bt x hn).trans hv) h) hd
theorem nm_glob {x : Str} {pos : Pos} {mg mb : Str → Option Value} {v : Value} {Q : Value → Shared → Prop} (G : Gl mg mb s.heap) (hm : mg x = some v) (h : Q v s)
    (hk : env.scope.kind = .function := by rfl) (hx : env.kindOf x = some .globalImplicit := by rfl) (heg : env.globals = mainGlobals := by rfl)
    (hd : (x == ("__debug__" : Str)) = false := by decide) :
    wpAny (model prog w) A (eval (.Name x pos) env) Q E s :=
  Name_function_global hk hx (loadGlobal_global (heg ▸ G.g) hm h) hd

theorem st_loc {x : Str} {m : Str → Option Value} {v : Value} {Q : Unit → Shared → Prop} (hn : s.heap.Ns env.locals m)
    (h : ∀ h', h'.Ns env.locals (upd m x v) → Heap.SameBut env.locals s.heap h' → Q () { s with heap := h', toks := s.toks + 1 })
    (hl : env.kindOf x = some .local := by rfl) (hp : (env.scope.kind == .class || (env.scope.kind == .module && env.locals != env.globals)) = false := by rfl) :
    wpAny (model prog w) A (storeName env x v) Q E s := wpAny_storeName_local hl hn h hp

theorem sub_dict {d : Addr} {kvs : List (Int × Value)} {k : Int} {u : Tok} {v : Value} {Q : Value → Shared → Prop} (hd : s.heap.DictOf (intKind prog w) d kvs) (hv : valueAt kvs k = some v)
    (h : Q v { s with toks := s.toks + 1 }) : SubscriptOn (model prog w) A (.ref d) (.int k u) Q E s :=
  ⟨"dict", _, slot_dict_getitem.lookup, hd.typeIs, wpAny_getItem_of (intKind_is prog w k u) hd.mapOf hv h⟩
theorem sub_list {l : Addr} {items : Array Value} {k : Int} {u : Tok} {v : Value} {Q : Value → Shared → Prop} (hl : s.heap.IsList l items) (h0 : 0 ≤ k) (hhi : k < 2 ^ 63) (hx : items[k.toNat]? = some v)
    (h : Q v s) : SubscriptOn (model prog w) A (.ref l) (.int k u) Q E s :=
  ⟨"list", _, slot_list_getitem.lookup, hl.typeIs, wpAny_getItem_list hl h0 hhi hx h⟩

theorem get2_dict {pos : Pos} {d : Addr} {t u : Sem Value} {kvs : List (Int × Value)} {Q : Value → Shared → Prop} (hds : (d == sysModules) = false) (hd : s.heap.DictOf (intKind prog w) d kvs)
    (h : wpAny (model prog w) A t (fun key s₁ => wpAny (model prog w) A u (fun dflt s₂ => ∃ k tk, key = .int k tk ∧ s₂.heap.DictOf (intKind prog w) d kvs ∧ Q ((valueAt kvs k).getD dflt) { s₂ with toks := s₂.toks + 1 }) E s₁) E s) :
    MethodOn prog w A "get" pos (.ref d) [(false, t), (false, u)] Q E s :=
  ⟨"dict", "dict.get", PySem.F.plainAttrs_dict, PySem.F.slot_dict_get, PySem.F.type_dict_get, hd.typeIs, hd.mapOf.noDict,
    wpAny_dict_get2 (knd := intKind prog w) hds (wpAny_mono h (fun _ _ h₁ => wpAny_mono h₁ (fun _ _ ⟨k, tk, e, hd', q⟩ => ⟨k, _, by subst e; exact intKind_is prog w k tk, hd'.mapOf, q⟩) fun _ _ e => e) fun _ _ e => e)⟩

theorem add_tup {t b : Addr} {vs ws : List Value} {Q : Value → Shared → Prop} (ht : IsTup s.heap t vs.toArray) (hb : IsTup s.heap b ws.toArray) (hw : ws ≠ [])
    (h0 : vs = [] → Q (.ref b) s) (h2 : Q (.ref s.heap.objs.size) { s with heap := s.heap.push { cls := .type "tuple", data := .seq (vs ++ ws).toArray } })
    (hsz : vs.length + ws.length ≤ sizeLine) : wpAny (model prog w) A (binaryOp .Add (.ref t) (.ref b)) Q E s := by
  obtain ⟨⟨cls, dd, data, sl⟩, ho, hc, n, hd⟩ := id ht
  obtain ⟨⟨cls2, dd2, data2, sl2⟩, ho2, hc2, n2, hd2⟩ := id hb
  simp only at hc hd hc2 hd2
  subst hc hd hc2 hd2
  by_cases hv : vs = []
  · exact concat_meets ⟨_, ho, rfl⟩ ⟨_, ho2, rfl⟩ noFill_tuple_add seq_tuple_add PySem.F.slot_tuple_add PySem.F.entry_tuple_add (PySem.F.args_tuple_add_2 _ _)
      (tuple_addW0 t b vs.toArray ws.toArray n n2 dd dd2 sl sl2 (by simp [hv])) ⟨ho, ho2, h0 hv⟩
  · refine concat_meets ⟨_, ho, rfl⟩ ⟨_, ho2, rfl⟩ noFill_tuple_add seq_tuple_add PySem.F.slot_tuple_add PySem.F.entry_tuple_add (PySem.F.args_tuple_add_2 _ _)
      (tuple_addW2 t b vs.toArray ws.toArray n n2 dd dd2 sl sl2 (by simpa using hv) (by simpa using hw) (by rw [List.size_toArray, List.size_toArray]; exact hsz)) ⟨ho, ho2, ?_⟩
    rw [show vs.toArray ++ ws.toArray = (vs ++ ws).toArray by simp]
    exact h2

namespace F
theorem typeCall_tuple_0 : checkTypeCall "tuple" ⟨[], []⟩ = pure () := by kernel_rfl
theorem newCall_tuple_0 : checkBuiltinCall "tuple.__new__" ⟨[.type "tuple"], []⟩ = pure () := by kernel_rfl
end F
theorem meets_tuple_new_0 : Meets (Builtin.«tuple.__new__» ⟨[.type "tuple"], []⟩) (fun _ R s => R (.ok (.ret (.ref s.heap.objs.size))) { s with heap := s.heap.push { cls := .type "tuple", data := .seq #[] } }) :=
  .of_wp fun prog w A R s h => by
    obtain ⟨hp, g, d, tk, os⟩ := s
    have hsub := sub_tuple_self
    have hinit := init_tuple_lookup
    have hmh := madeHere_tuple
    wp_walk
    all_goals first | exact ⟨_, rfl, h⟩ | exact h | trace_state
theorem call_tuple_0 {Q : Value → Shared → Prop} (h : Q (.ref s.heap.objs.size) { s with heap := s.heap.push { cls := .type "tuple", data := .seq #[] } }) :
    wpAny (model prog w) A (call (.type "tuple") []) Q E s :=
  callType_new PySem.F.called_tuple (by decide) F.typeCall_tuple_0 F.newCall_tuple_0 (fun obj => PySem.F.args_object_init_1 obj) PySem.F.entry_tuple_new
    meets_tuple_new_0 ⟨⟨_, Heap.get?_push_size _ rfl, rfl⟩, h⟩
end
end Mine
end

-- part A3
section
open PySem PySem.W PyProof.Rows PySem.Calls
set_option maxRecDepth 100000
namespace Mine

/-- an association list of ints: the place of the key is kept -/
def rput {α : Type} (rd : List (Int × α)) (k : Int) (a : α) : List (Int × α) :=
  if rd.any (fun x => x.1 = k) then rd.map (fun x => if x.1 = k then (x.1, a) else x) else rd ++ [(k, a)]
def rget {α : Type} (rd : List (Int × α)) (k : Int) : Option α := (rd.find? fun x => x.1 = k).map (·.2)

theorem stored_map {α : Type} (f : α → Value) (rd : List (Int × α)) (k : Int) (a : α) : stored (rd.map fun x => (x.1, f x.2)) k (f a) = (rput rd k a).map fun x => (x.1, f x.2) := by
  unfold stored rput
  have e : ((rd.map fun x => (x.1, f x.2)).any fun kv => decide (kv.1 = k)) = rd.any fun x => decide (x.1 = k) := by
    rw [List.any_map]; rfl
  rw [e]
  split
  · rw [List.map_map, List.map_map]
    refine List.map_congr_left fun x _ => ?_
    simp only [Function.comp]
    split <;> rfl
  · simp
theorem valueAt_map {α : Type} (f : α → Value) (rd : List (Int × α)) (k : Int) : valueAt (rd.map fun x => (x.1, f x.2)) k = (rget rd k).map f := by
  unfold valueAt rget
  induction rd with
  | nil => rfl
  | cons x r ih =>
    simp only [List.map_cons, List.find?_cons]
    by_cases hx : x.1 = k
    · simp [hx]
    · simp only [hx, decide_false]; exact ih
theorem rget_mem {α : Type} {rd : List (Int × α)} {k : Int} {a : α} (h : rget rd k = some a) : (k, a) ∈ rd := by
  unfold rget at h
  obtain ⟨x, hx, rfl⟩ := Option.map_eq_some_iff.mp h
  have h1 := List.find?_some hx
  have h2 := List.mem_of_find?_eq_some hx
  simp only [decide_eq_true_eq] at h1
  rw [← h1]; exact h2
theorem rget_none {α : Type} {rd : List (Int × α)} {k : Int} (h : rget rd k = none) : k ∉ rd.map (·.1) := by
  unfold rget at h
  rw [Option.map_eq_none_iff, List.find?_eq_none] at h
  intro hm
  obtain ⟨x, hx, e⟩ := List.mem_map.mp hm
  exact h x hx (by simpa using e)
theorem rget_some_of {α : Type} {rd : List (Int × α)} {k : Int} (h : k ∈ rd.map (·.1)) : ∃ a, rget rd k = some a := by
  cases e : rget rd k with
  | none => exact absurd h (rget_none e)
  | some a => exact ⟨a, rfl⟩
theorem rget_of_mem {α : Type} {rd : List (Int × α)} (hn : (rd.map (·.1)).Nodup) {k : Int} {a : α} (h : (k, a) ∈ rd) : rget rd k = some a := by
  unfold rget
  induction rd with
  | nil => cases h
  | cons x r ih =>
    rw [List.map_cons, List.nodup_cons] at hn
    rw [List.find?_cons]
    rcases List.mem_cons.mp h with rfl | h
    · simp
    · have : x.1 ≠ k := fun e => hn.1 (e ▸ List.mem_map.mpr ⟨(k, a), h, rfl⟩)
      simp only [this, decide_false]
      exact ih hn.2 h
theorem rput_new {α : Type} {rd : List (Int × α)} {k : Int} (h : k ∉ rd.map (·.1)) (a : α) : rput rd k a = rd ++ [(k, a)] := by
  unfold rput
  rw [if_neg]
  intro q
  obtain ⟨x, hx, e⟩ := List.any_eq_true.mp q
  exact h (List.mem_map.mpr ⟨x, hx, by simpa using e⟩)
theorem rput_old {α : Type} {rd : List (Int × α)} {k : Int} (h : k ∈ rd.map (·.1)) (a : α) : rput rd k a = rd.map fun x => if x.1 = k then (x.1, a) else x := by
  unfold rput
  rw [if_pos]
  obtain ⟨x, hx, e⟩ := List.mem_map.mp h
  exact List.any_eq_true.mpr ⟨x, hx, by simpa using e⟩
theorem rput_keys {α : Type} (rd : List (Int × α)) (k : Int) (a : α) (j : Int) : j ∈ (rput rd k a).map (·.1) ↔ j ∈ rd.map (·.1) ∨ j = k := by
  by_cases h : k ∈ rd.map (·.1)
  · rw [rput_old h, List.map_map]
    have e : ((fun x : Int × α => x.1) ∘ fun x : Int × α => if x.1 = k then (x.1, a) else x) = fun x => x.1 := by funext x; simp only [Function.comp]; split <;> rfl
    rw [e]
    exact ⟨.inl, fun q => q.elim id fun e => e ▸ h⟩
  · rw [rput_new h]; simp
theorem rput_mem {α : Type} {rd : List (Int × α)} {k : Int} {a : α} {x : Int × α} (h : x ∈ rput rd k a) : (x ∈ rd ∧ x.1 ≠ k) ∨ x = (k, a) := by
  by_cases hk : k ∈ rd.map (·.1)
  · rw [rput_old hk] at h
    obtain ⟨y, hy, rfl⟩ := List.mem_map.mp h
    by_cases e : y.1 = k
    · rw [if_pos e, e]; exact .inr rfl
    · rw [if_neg e]; exact .inl ⟨hy, e⟩
  · rw [rput_new hk] at h
    rcases List.mem_append.mp h with h | h
    · exact .inl ⟨h, fun e => hk (e ▸ List.mem_map.mpr ⟨x, h, rfl⟩)⟩
    · exact .inr (List.mem_singleton.mp h)
theorem rput_length {α : Type} (rd : List (Int × α)) (k : Int) (a : α) : (rput rd k a).length ≤ rd.length + 1 := by
  unfold rput; split <;> simp

/-- the graph's edges, row by row -/
def edg (g : List (Int × Addr × List Int)) : List (Int × Int) := g.flatMap fun x => x.2.2.map fun v => (x.1, v)
theorem mem_edg {g : List (Int × Addr × List Int)} {u v : Int} : (u, v) ∈ edg g ↔ ∃ x ∈ g, x.1 = u ∧ v ∈ x.2.2 := by
  unfold edg
  simp only [List.mem_flatMap, List.mem_map, Prod.mk.injEq]
  constructor
  · rintro ⟨x, hx, y, hy, e1, e2⟩; exact ⟨x, hx, e1, e2 ▸ hy⟩
  · rintro ⟨x, hx, e, hv⟩; exact ⟨x, hx, v, hv, e, rfl⟩
theorem edg_take_succ {g : List (Int × Addr × List Int)} {i : Nat} {x : Int × Addr × List Int} (h : g[i]? = some x) : edg (g.take (i + 1)) = edg (g.take i) ++ x.2.2.map fun v => (x.1, v) := by
  unfold edg
  rw [List.take_add_one, h]
  simp

structure RInv (es : List (Int × Int)) (rd : List (Int × Addr × List Int)) : Prop where
  keys : ∀ m, m ∈ rd.map (·.1) ↔ ∃ u, (u, m) ∈ es
  row : ∀ x ∈ rd, ∀ u, u ∈ x.2.2 ↔ (u, x.1) ∈ es
  len : ∀ x ∈ rd, x.2.2.length ≤ es.length
  size : rd.length ≤ es.length
theorem RInv.nil : RInv [] [] := ⟨fun m => by simp, fun _ h => (nomatch h), fun _ h => (nomatch h), Nat.le_refl _⟩
theorem RInv.step {es : List (Int × Int)} {rd : List (Int × Addr × List Int)} (R : RInv es rd) (key val : Int) (T : Addr) {ps : List Int}
    (hps : ps = ((rget rd val).map (·.2)).getD []) : RInv (es ++ [(key, val)]) (rput rd val (T, ps ++ [key])) := by
  have hp : ∀ u, u ∈ ps ↔ (u, val) ∈ es := by
    intro u
    cases e : rget rd val with
    | none =>
      rw [e] at hps; subst hps
      have := rget_none e
      rw [R.keys] at this
      simp only [Option.map_none, Option.getD_none, List.not_mem_nil, false_iff]
      exact fun q => this ⟨u, q⟩
    | some a =>
      rw [e] at hps; subst hps
      exact R.row _ (rget_mem e) u
  have hl : ps.length ≤ es.length := by
    cases e : rget rd val with
    | none => rw [e] at hps; subst hps; exact Nat.zero_le _
    | some a => rw [e] at hps; subst hps; exact R.len _ (rget_mem e)
  refine ⟨fun m => ?_, fun x hx u => ?_, fun x hx => ?_, ?_⟩
  · rw [rput_keys, R.keys]
    simp only [List.mem_append, List.mem_singleton, Prod.mk.injEq]
    constructor
    · rintro (⟨u, h⟩ | rfl)
      · exact ⟨u, .inl h⟩
      · exact ⟨key, .inr ⟨rfl, rfl⟩⟩
    · rintro ⟨u, h | ⟨_, rfl⟩⟩
      · exact .inl ⟨u, h⟩
      · exact .inr rfl
  · rcases rput_mem hx with ⟨h1, h2⟩ | rfl
    · rw [R.row x h1 u]
      simp only [List.mem_append, List.mem_singleton, Prod.mk.injEq]
      exact ⟨.inl, fun q => q.elim id fun e => absurd e.2 h2⟩
    · simp only [List.mem_append, List.mem_singleton, Prod.mk.injEq, hp, and_true]
  · rw [List.length_append, List.length_singleton]
    rcases rput_mem hx with ⟨h1, _⟩ | rfl
    · exact Nat.le_succ_of_le (R.len x h1)
    · simp only [List.length_append, List.length_singleton]; omega
  · rw [List.length_append, List.length_singleton]
    exact Nat.le_trans (rput_length ..) (Nat.succ_le_succ R.size)

section
variable {prog : Program} {w : World}
def LDict (prog : Program) (w : World) (h : Heap) (d : Addr) (g : List (Int × Addr × List Int)) : Prop :=
  h.DictOf (intKind prog w) d (g.map fun x => (x.1, .ref x.2.1)) ∧ ∀ x ∈ g, ∃ vs, h.PlainList x.2.1 (List.toArray vs) ∧ IntsAre vs x.2.2
def TDict (prog : Program) (w : World) (h : Heap) (d : Addr) (g : List (Int × Addr × List Int)) : Prop :=
  h.DictOf (intKind prog w) d (g.map fun x => (x.1, .ref x.2.1)) ∧ ∀ x ∈ g, ∃ vs, IsTup h x.2.1 (List.toArray vs) ∧ IntsAre vs x.2.2
theorem DictOf_at {h h' : Heap} {a : Addr} {kvs : List (Int × Value)} (x : h.DictOf (intKind prog w) a kvs) (k : ∀ o, h.get? a = some o → h'.get? a = some o) : h'.DictOf (intKind prog w) a kvs :=
  let ⟨o, es, ep, ho, r⟩ := x; ⟨o, es, ep, k o ho, r⟩
theorem IsTup_at {h h' : Heap} {a : Addr} {xs : Array Value} (x : IsTup h a xs) (k : ∀ o, h.get? a = some o → h'.get? a = some o) : IsTup h' a xs :=
  let ⟨o, ho, r⟩ := x; ⟨o, k o ho, r⟩
theorem LDict.keeps {h h' : Heap} {d : Addr} {g : List (Int × Addr × List Int)} (x : LDict prog w h d g) (k : ∀ b o, h.get? b = some o → h'.get? b = some o) : LDict prog w h' d g :=
  ⟨DictOf_at x.1 (k d), fun y hy => let ⟨vs, a, b⟩ := x.2 y hy; ⟨vs, a.at (k _), b⟩⟩
theorem LDict.nodup {h : Heap} {d : Addr} {g : List (Int × Addr × List Int)} (x : LDict prog w h d g) : (g.map (·.1)).Nodup := by
  obtain ⟨⟨_, _, _, _, _, _, _, _, hn⟩, _⟩ := x
  rw [List.map_map] at hn; exact hn
theorem TDict.nodup {h : Heap} {d : Addr} {g : List (Int × Addr × List Int)} (x : TDict prog w h d g) : (g.map (·.1)).Nodup := by
  obtain ⟨⟨_, _, _, _, _, _, _, _, hn⟩, _⟩ := x
  rw [List.map_map] at hn; exact hn
/-- W touches neither the dict nor its rows -/
def Off (W : List Addr) (d : Addr) (g : List (Int × Addr × List Int)) : Prop := d ∉ W ∧ ∀ x ∈ g, x.2.1 ∉ W
theorem TDict.fm {h h' : Heap} {W : List Addr} {d : Addr} {g : List (Int × Addr × List Int)} (x : TDict prog w h d g) (k : Fm W h h') (hd : d ∉ W) (hr : ∀ x ∈ g, x.2.1 ∉ W) : TDict prog w h' d g :=
  ⟨DictOf_at x.1 (fun o e => k d o hd e), fun y hy => let ⟨vs, a, b⟩ := x.2 y hy; ⟨vs, IsTup_at a (fun o e => k _ o (hr y hy) e), b⟩⟩
theorem DictOf_live {h : Heap} {a : Addr} {kvs : List (Int × Value)} (x : h.DictOf (intKind prog w) a kvs) : ∃ o, h.get? a = some o := let ⟨o, _, _, ho, _⟩ := x; ⟨o, ho⟩
theorem IsTup_live {h : Heap} {a : Addr} {xs : Array Value} (x : IsTup h a xs) : ∃ o, h.get? a = some o := let ⟨o, ho, _⟩ := x; ⟨o, ho⟩
theorem Ns_live {h : Heap} {a : Addr} {m : Str → Option Value} (x : h.Ns a m) : ∃ o, h.get? a = some o := let ⟨o, _, _, ho, _⟩ := x; ⟨o, ho⟩
theorem IsList_live {h : Heap} {a : Addr} {xs : Array Value} (x : h.IsList a xs) : ∃ o, h.get? a = some o := let ⟨o, ho, _⟩ := x; ⟨o, ho⟩
end
end Mine
end

-- part A4
section
open PySem PySem.W PyProof.Rows PySem.Calls
set_option maxRecDepth 100000
namespace Mine
section
variable {prog : Program} {w : World} {A : Around} {E : Value → Shared → Prop} {s : Shared}

theorem ne_sys {d : Addr} (hd : sysModules < d) : (d == sysModules) = false := by
  rw [beq_eq_false_iff_ne]; exact Nat.ne_of_gt hd

def revInner : List Stmt := match revD.body with
  | [_, .For _ _ [.For _ _ b _ _] _ _, _] => b
  | _ => []

theorem rev_body {L a : Addr} {cd : Value} {mg mb : Str → Option Value} {m : Str → Option Value} {h0 : Heap} {D : Addr} {key val : Int} {tk tv : Tok} {rd : List (Int × Addr × List Int)} {es : List (Int × Int)}
    (G : Gl mg mb h0) (hmt : mg "tuple" = none) (k0 : ∀ b o, h0.get? b = some o → s.heap.get? b = some o)
    (hn : s.heap.Ns L m) (hmr : m "result" = some (.ref D)) (hmk : m "key" = some (.int key tk)) (hmv : m "val" = some (.int val tv))
    (hD : TDict prog w s.heap D rd) (hDL : D ≠ L) (hDs : sysModules < D) (hrD : ∀ x ∈ rd, x.2.1 ≠ D) (R : RInv es rd) (hsz : es.length < 1000) {Q : Flow → Shared → Prop}
    (h : ∀ h' tok rd' T, Fm [D] s.heap h' → TDict prog w h' D rd' → RInv (es ++ [(key, val)]) rd' → (∀ x ∈ rd', x ∈ rd ∨ (x.2.1 = T ∧ s.heap.get? T = none)) → h'.Ns L m → Q .next { s with heap := h', toks := tok }) :
    wpAny (model prog w) A (execs revInner (envOf revD.name revD.scope L a cd)) Q E s := by
  have hDlive := DictOf_live hD.1
  refine wpAny_execs_cons ?_
  refine wpAny_Assign_Subscript ?_
  refine wpAny_BinOp ?_
  refine wpAny_Call_method2_late (by rfl) (by rfl) (by rfl) ?_
  refine nm_loc hn hmr ?_
  refine get2_dict (ne_sys hDs) hD.1 ?_
  refine nm_loc hn hmv ?_
  refine Call_ ?_
  refine nm_built (G.keeps k0) hmt (by rfl) ?_
  refine PyProof.Rows.callWith_type0 ?_
  refine call_tuple_0 ?_
  -- the old row, or the empty tuple
  have hold : ∃ t₁ vs ps, (valueAt (rd.map fun x => (x.1, Value.ref x.2.1)) val).getD (.ref s.heap.objs.size) = .ref t₁ ∧
      IsTup (s.heap.push { cls := .type "tuple", data := .seq #[] }) t₁ (List.toArray vs) ∧ IntsAre vs ps ∧ ps = ((rget rd val).map (·.2)).getD [] := by
    have ev := valueAt_map (fun x : Addr × List Int => Value.ref x.1) rd val
    cases e : rget rd val with
    | none =>
      rw [e] at ev
      exact ⟨s.heap.objs.size, [], [], by rw [ev]; rfl, ⟨_, Heap.get?_push_size _ rfl, rfl, 0, rfl⟩, .nil, rfl⟩
    | some y =>
      rw [e] at ev
      obtain ⟨vs, h1, h2⟩ := hD.2 _ (rget_mem e)
      exact ⟨y.1, vs, y.2, by rw [ev]; rfl, IsTup_at h1 (fun o q => Heap.get?_push_of_some _ q), h2, rfl⟩
  obtain ⟨t₁, vs, ps, ev, ht₁, hvs, hps⟩ := hold
  refine ⟨val, tv, rfl, DictOf_at hD.1 (fun o q => Heap.get?_push_of_some _ q), ?_⟩
  rw [ev]
  -- (key,)
  refine wpAny_Tuple ?_
  refine wpAny_items_cons ?_
  refine nm_loc (hn.push _) hmk ?_
  refine wpAny_items_nil ⟨by rw [sizeLine_eq]; simp, ?_⟩
  have hpsl : ps.length ≤ es.length := by
    cases e : rget rd val with
    | none => rw [e] at hps; subst hps; exact Nat.zero_le _
    | some y => rw [e] at hps; subst hps; exact R.len _ (rget_mem e)
  have k1 : ∀ b o, s.heap.get? b = some o → ((s.heap.push { cls := .type "tuple", data := .seq #[] }).push { cls := .type "tuple", data := .seq [Value.int key tk].toArray }).get? b = some o :=
    fun b o q => Heap.get?_push_of_some _ (Heap.get?_push_of_some _ q)
  -- what is stored: a tuple of the old row and the key
  have fin : ∀ (h₂ : Heap) (T : Addr) (vs' : List Value), (∀ b o, s.heap.get? b = some o → h₂.get? b = some o) → s.heap.get? T = none → IsTup h₂ T vs'.toArray → IntsAre vs' (ps ++ [key]) →
      wpAny (model prog w) A (eval (.Name ("result" : Str) ⟨22, 12, 22, 18⟩) (envOf revD.name revD.scope L a cd)) (fun ov s₂ => wpAny (model prog w) A (eval (.Name ("val" : Str) ⟨22, 19, 22, 22⟩) (envOf revD.name revD.scope L a cd))
        (fun iv s₃ => wpAny (model prog w) A (setItem ov iv (.ref T)) (fun _ s' => wpAny (model prog w) A (execs [] (envOf revD.name revD.scope L a cd)) Q E s') E s₃) E s₂) E
        { s with heap := h₂, toks := s.toks + 1 } := by
    intro h₂ T vs' k2 hTn hT hv'
    have hn₂ := hn.keeps k2
    refine nm_loc hn₂ hmr (nm_loc hn₂ hmv ?_)
    have hTD : T ≠ D := fun q => by obtain ⟨o, e⟩ := hDlive; rw [← q, hTn] at e; cases e
    refine wpAny_setItem_pairs (intKind_is prog w val tv) (DictOf_at hD.1 (fun o q => k2 _ o q)) (fun h₃ hd₃ hs₃ => ?_) (by rw [sizeLine_eq, List.length_map]; have := R.size; omega)
    refine wpAny_execs_nil ?_
    rw [show stored (rd.map fun x => (x.1, Value.ref x.2.1)) val (.ref T) = (rput rd val (T, ps ++ [key])).map fun x => (x.1, Value.ref x.2.1) from stored_map (fun x : Addr × List Int => Value.ref x.1) rd val (T, ps ++ [key])] at hd₃
    refine h h₃ _ (rput rd val (T, ps ++ [key])) T (fun b o hb e => hs₃.extBut b o (fun q => hb (by simp [q])) (k2 b o e)) ⟨hd₃, fun x hx => ?_⟩ (R.step key val T hps) (fun x hx => ?_) (hn₂.sameBut hs₃ (Ne.symm hDL))
    · rcases rput_mem hx with ⟨h1, _⟩ | rfl
      · obtain ⟨us, a1, a2⟩ := hD.2 x h1
        exact ⟨us, IsTup_at a1 (fun o q => hs₃.extBut _ o (hrD x h1) (k2 _ o q)), a2⟩
      · exact ⟨vs', IsTup_at hT (fun o q => hs₃.extBut _ o hTD q), hv'⟩
    · rcases rput_mem hx with ⟨h1, _⟩ | rfl
      · exact .inl h1
      · exact .inr ⟨rfl, hTn⟩
  refine add_tup (vs := vs) (ws := [Value.int key tk]) (IsTup_at ht₁ (fun o q => Heap.get?_push_of_some _ q)) ⟨_, Heap.get?_push_size _ rfl, rfl, 0, rfl⟩ (by simp) (fun hv => ?_) ?_ ?_
  · subst hv
    have : ps = [] := by cases hvs; rfl
    refine fin _ _ [Value.int key tk] k1 ?_ ⟨_, Heap.get?_push_size _ rfl, rfl, 0, rfl⟩ (by rw [this]; exact .cons key tk .nil)
    exact Heap.get?_none_of_le (by rw [Heap.size_push]; exact Nat.le_succ _)
  · refine fin _ _ (vs ++ [Value.int key tk]) (fun b o q => Heap.get?_push_of_some _ (k1 b o q)) ?_ ⟨_, Heap.get?_push_size _ rfl, rfl, 0, rfl⟩ (hvs.append (.cons key tk .nil))
    exact Heap.get?_none_of_le (by rw [Heap.size_push, Heap.size_push]; exact Nat.le_succ_of_le (Nat.le_succ _))
  · rw [hvs.length, sizeLine_eq]; simp only [List.length_singleton]; omega
end
end Mine
end

-- part A5
section
open PySem PySem.W PyProof.Rows PySem.Calls
set_option maxRecDepth 100000
namespace Mine
section
variable {prog : Program} {w : World} {A : Around} {E : Value → Shared → Prop} {s : Shared}

theorem rev_spec {R : Result → Shared → Prop} {a d : Addr} {o : Obj} {pm cd doc : Value} {g : List (Int × Addr × List Int)} {mg mb : Str → Option Value} (hh : A.handled = none) (hroom : A.depth < recursionLimit)
    (ho : s.heap.get? a = some o) (hdata : o.data = .func (docDef revD.name revD.params revD.body revD.scope pm cd doc)) (G : Gl mg mb s.heap) (hcd : s.heap.CodeRec cd revD.name)
    (hmt : mg "tuple" = none) (hd : LDict prog w s.heap d g) (hds : sysModules < d) (hsz : (edg g).length < 1000)
    (h : ∀ h' tok D rd, (∀ b o, s.heap.get? b = some o → h'.get? b = some o) → s.heap.get? D = none → sysModules < D → TDict prog w h' D rd → RInv (edg g) rd → (∀ x ∈ rd, x.2.1 ≠ D ∧ s.heap.get? x.2.1 = none) →
      R (.ok (.ret (.ref D))) { s with heap := h', toks := tok }) :
    codeAny (model prog w) A (.call (.ref a) ⟨[.ref d], []⟩) R s := by
  refine call_plain_ret (binds := [("d", .ref d)]) hroom ho hdata G.nl hcd (by rfl) (by intro x hx; simp at hx; subst hx; rfl) (fun h₁ F => ?_)
  have k₁ := F.keep
  have hn := F.ns
  have hdl : d < s.heap.objs.size := let ⟨_, e⟩ := DictOf_live hd.1; Heap.lt_size e
  generalize hL : s.heap.objs.size = L at hn hdl ⊢
  have hLnew : s.heap.get? L = none := hL ▸ get_size s.heap
  generalize hm : (fun x : Str => List.lookup x (List.reverse [(("d" : Str), Value.ref d)])) = m at hn
  have hmd : m "d" = some (.ref d) := by rw [← hm]; rfl
  refine wpAny_execs_cons (wpAny_Assign_Name (wpAny_Dict_empty ?_))
  have hdl1 : d < h₁.objs.size := let ⟨_, e⟩ := DictOf_live hd.1; Heap.lt_size (k₁ _ _ e)
  generalize hDe : h₁.objs.size = D at hdl1 ⊢
  have hDn : h₁.get? D = none := hDe ▸ get_size h₁
  have hDs : s.heap.get? D = none := by
    cases q : s.heap.get? D with
    | none => rfl
    | some o => rw [k₁ _ _ q] at hDn; cases hDn
  have hDL : D ≠ L := fun q => by obtain ⟨o, e⟩ := Ns_live hn; rw [← q, hDn] at e; cases e
  have hD0 : TDict prog w (h₁.push { cls := .type "dict", data := .dict #[] }) D [] :=
    ⟨by rw [← hDe]; exact ⟨_, #[], 0, Heap.get?_push_size _ rfl, ⟨rfl, rfl, rfl⟩, rfl, fun _ he => by simp at he, .nil, .nil⟩, fun _ hx => (nomatch hx)⟩
  refine st_loc (env := envOf revD.name revD.scope L a cd) (hn.push _) (fun h₂ hn₂ hs₂ => ?_)
  replace hn₂ : h₂.Ns L (upd m "result" (.ref D)) := hn₂
  replace hs₂ : Heap.SameBut L (h₁.push { cls := .type "dict", data := .dict #[] }) h₂ := hs₂
  have k₂ : ∀ b o, s.heap.get? b = some o → h₂.get? b = some o := fun b o e => hs₂.extBut b o (fun q => by rw [q, hLnew] at e; cases e) (Heap.get?_push_of_some _ (k₁ b o e))
  have hD₂ : TDict prog w h₂ D [] := hD0.fm (Fm.same hs₂ (List.mem_singleton.mpr rfl)) (by simpa using hDL) (fun _ hx => (nomatch hx))
  have hmd₂ : upd m "result" (.ref D) "d" = some (.ref d) := by rw [upd_ne (by decide)]; exact hmd
  -- for key in d
  refine wpAny_execs_cons (For_J (by rfl) (by rfl) ?_)
  refine nm_loc hn₂ hmd₂ ?_
  have hd₂ : LDict prog w h₂ d g := hd.keeps k₂
  obtain ⟨ep, hat⟩ := hd₂.1.dictAt
  refine wpAny_pyIter_dict (ne_sys hds) hat ?_
  generalize hIe : h₂.objs.size = I
  have hIn : h₂.get? I = none := hIe ▸ get_size h₂
  have hId : d ≠ I := ne_of_get' (DictOf_live hd₂.1) hIn
  have hIL : L ≠ I := ne_of_get' (Ns_live hn₂) hIn
  have hID : D ≠ I := ne_of_get' (DictOf_live hD₂.1) hIn
  have hdL : L ≠ d := fun q => by obtain ⟨o, e⟩ := DictOf_live hd.1; rw [← q, hLnew] at e; cases e
  have hdD : D ≠ d := fun q => by obtain ⟨o, e⟩ := DictOf_live hd.1; rw [← q, hDs] at e; cases e
  generalize hio : ({ cls := .type "dict_keyiterator", data := .fields #[.ref d, .int 0 0, .int ((g.map fun x => (x.1, Value.ref x.2.1)).length) 0, .int ep 0] } : Obj) = io
  have hIs : s.heap.get? I = none := by
    cases q : s.heap.get? I with
    | none => rfl
    | some o => rw [k₂ _ _ q] at hIn; cases hIn
  have hlen : (g.map fun x => (x.1, Value.ref x.2.1)).length = g.length := by simp
  refine ⟨I, _, _, _, _, _, upd m "result" (.ref D), fun i m' s' => m' "d" = some (.ref d) ∧ m' "result" = some (.ref D) ∧ (∃ tk, s' = { s with heap := s'.heap, toks := tk }) ∧
      (∀ b o, s.heap.get? b = some o → s'.heap.get? b = some o) ∧ ∃ rd, TDict prog w s'.heap D rd ∧ RInv (edg (g.take i)) rd ∧ ∀ x ∈ rd, x.2.1 ∉ [L, D, I] ∧ s.heap.get? x.2.1 = none,
    rfl, Walks.dictKeys (knd := intKind prog w) (by exact hh) I d hId (g.map fun x => (x.1, Value.ref x.2.1)) ep, ?_, ?_, hn₂.push _, ?_, ?_, ?_, ?_⟩
  · simp only [List.mem_cons, List.not_mem_nil, or_false, not_or]; exact ⟨hIL, hdL⟩
  · exact ⟨⟨io, by rw [← hIe]; exact Heap.get?_push_size _ (by rw [← hio]; rfl), by rw [← hio]; exact ⟨rfl, rfl⟩⟩, hat.push _⟩
  · refine ⟨hmd₂, upd_same, ⟨_, rfl⟩, fun b o e => Heap.get?_push_of_some _ (k₂ b o e), [], hD₂.fm (W := []) (Fm.keep fun b o e => Heap.get?_push_of_some _ e) (by simp) (by simp), ?_, by simp⟩
    rw [List.take_zero]; exact RInv.nil
  · rintro i m' s' h' tk ⟨h1, h2, ⟨tk', h3⟩, h4, rd, h5, h6, h7⟩ hf
    refine ⟨h1, h2, ⟨tk, by rw [h3]⟩, fun b o e => hf b o (fun q => ?_) (h4 b o e), rd, h5.fm hf ?_ (fun x hx q => (h7 x hx).1 ?_), h6, h7⟩
    · simp only [List.mem_cons, List.not_mem_nil, or_false] at q
      rcases q with q | q
      · have e' : s.heap.get? L = some o := by rw [q] at e; exact e
        rw [hLnew] at e'; cases e'
      · rw [q, hIs] at e; cases e
    · simp only [List.mem_cons, List.not_mem_nil, or_false, not_or]; exact ⟨hDL, hID⟩
    · simp only [List.mem_cons, List.not_mem_nil, or_false] at q ⊢
      rcases q with q | q
      · exact .inl q
      · exact .inr (.inr q)
  · rintro i v m' s' hi ⟨key, kv, hkv, hvk⟩ ⟨h1, h2, ⟨tk', h3⟩, h4, rd, h5, h6, h7⟩ ⟨hst1, hst2⟩ hn'
    obtain ⟨tkk, rfl⟩ := Value.isInt_shape hvk
    rw [List.getElem?_map, Option.map_eq_some_iff] at hkv
    obtain ⟨x, hx, hxe⟩ := hkv
    cases hxe
    have hm1 : upd m' "key" (.int x.1 tkk) "d" = some (.ref d) := by rw [upd_ne (by decide)]; exact h1
    have hm2 : upd m' "key" (.int x.1 tkk) "result" = some (.ref D) := by rw [upd_ne (by decide)]; exact h2
    refine wpAny_execs_cons (For_J (by rfl) (by rfl) ?_)
    refine wpAny_Subscript_Name_late ?_
    refine nm_loc hn' hm1 (nm_loc hn' upd_same ?_)
    have hd' : LDict prog w s'.heap d g := hd.keeps h4
    have hxg : x ∈ g := List.mem_of_getElem? hx
    refine sub_dict (v := .ref x.2.1) hd'.1 (by rw [valueAt_map (fun y : Addr × List Int => Value.ref y.1), rget_of_mem hd.nodup (show (x.1, x.2) ∈ g from hxg)]; rfl) ?_
    obtain ⟨vs, hlp, hvs⟩ := hd'.2 x hxg
    have hl := hlp.isList
    refine wpAny_pyIter_list hl ?_
    have hDlive := DictOf_live h5.1
    have hIlive : ∃ o, s'.heap.get? I = some o := let ⟨o, e, _⟩ := hst1; ⟨o, e⟩
    generalize hI2e : s'.heap.objs.size = I₂
    have hI2n : s'.heap.get? I₂ = none := hI2e ▸ get_size s'.heap
    have hI2L : L ≠ I₂ := ne_of_get' (Ns_live hn') hI2n
    have hI2D : D ≠ I₂ := ne_of_get' hDlive hI2n
    have hI2I : I ≠ I₂ := ne_of_get' hIlive hI2n
    have hI2l : x.2.1 ≠ I₂ := ne_of_get' (IsList_live hl) hI2n
    have hlL : x.2.1 ≠ L := fun q => by
      obtain ⟨o, e⟩ := IsList_live (hd.2 x hxg).choose_spec.1.isList
      rw [q, hLnew] at e; cases e
    have hlD : x.2.1 ≠ D := fun q => by
      obtain ⟨o, e⟩ := IsList_live (hd.2 x hxg).choose_spec.1.isList
      rw [q, hDs] at e; cases e
    have hlI : x.2.1 ≠ I := fun q => by
      obtain ⟨o, e⟩ := IsList_live (hd.2 x hxg).choose_spec.1.isList
      rw [q, hIs] at e; cases e
    have hI2s : s.heap.get? I₂ = none := by
      cases q : s.heap.get? I₂ with
      | none => rfl
      | some o => rw [h4 _ _ q] at hI2n; cases hI2n
    generalize hio2 : ({ cls := .type "list_iterator", data := .fields #[.ref x.2.1, .int 0 0] } : Obj) = io2
    have hvl : vs.toArray.size = x.2.2.length := by rw [List.size_toArray, hvs.length]
    refine ⟨I₂, _, _, _, _, _, upd m' "key" (.int x.1 tkk), fun j m'' s'' => m'' "d" = some (.ref d) ∧ m'' "result" = some (.ref D) ∧ m'' "key" = some (.int x.1 tkk) ∧ (∃ tk, s'' = { s with heap := s''.heap, toks := tk }) ∧
        Fm [L, D, I₂] s'.heap s''.heap ∧ ∃ rd', TDict prog w s''.heap D rd' ∧ RInv (edg (g.take i) ++ ((x.2.2.take j).map fun v => (x.1, v))) rd' ∧ ∀ y ∈ rd', y.2.1 ∉ [L, D, I, I₂] ∧ s.heap.get? y.2.1 = none,
      rfl, Walks.list (by exact hh) I₂ x.2.1 hI2l vs.toArray, ?_, ?_, hn'.push _, ?_, ?_, ?_, ?_⟩
    · simp only [List.mem_cons, List.not_mem_nil, or_false, not_or]; exact ⟨hI2L, Ne.symm hlL⟩
    · exact ⟨⟨io2, by rw [← hI2e]; exact Heap.get?_push_size _ (by rw [← hio2]; rfl), by rw [← hio2]; exact ⟨rfl, rfl⟩⟩, hl.push _⟩
    · refine ⟨hm1, hm2, upd_same, ⟨_, by rw [h3]⟩, Fm.keep fun b o e => Heap.get?_push_of_some _ e, rd, h5.fm (W := []) (Fm.keep fun b o e => Heap.get?_push_of_some _ e) (by simp) (by simp), ?_, fun y hy => ⟨?_, (h7 y hy).2⟩⟩
      · rw [List.take_zero, List.map_nil, List.append_nil]; exact h6
      · have h8 := (h7 y hy).1
        have h9 : y.2.1 ≠ I₂ := ne_of_get' (IsTup_live (h5.2 y hy).choose_spec.1) hI2n
        simp only [List.mem_cons, List.not_mem_nil, or_false, not_or] at h8 ⊢
        exact ⟨h8.1, h8.2.1, h8.2.2, h9⟩
    · rintro j m'' s'' h' tk ⟨g1, g2, g3, ⟨tk', g4⟩, g5, rd', g6, g7, g8⟩ hf
      refine ⟨g1, g2, g3, ⟨tk, by rw [g4]⟩, g5.trans (hf.mono fun b hb => ?_), rd', g6.fm hf ?_ (fun y hy q => (g8 y hy).1 ?_), g7, g8⟩
      · simp only [List.mem_cons, List.not_mem_nil, or_false] at hb ⊢
        rcases hb with q | q
        · exact .inl q
        · exact .inr (.inr q)
      · simp only [List.mem_cons, List.not_mem_nil, or_false, not_or]; exact ⟨hDL, hI2D⟩
      · simp only [List.mem_cons, List.not_mem_nil, or_false] at q ⊢
        rcases q with q | q
        · exact .inl q
        · exact .inr (.inr (.inr q))
    · rintro j v m'' s'' hj hv ⟨g1, g2, g3, ⟨tk', g4⟩, g5, rd', g6, g7, g8⟩ ⟨hs1, hs2⟩ hn''
      have hj' : j < x.2.2.length := by rw [← hvl]; exact hj
      obtain ⟨tv, hv'⟩ := hvs.get j (x.2.2[j]) (by simp [hj'])
      have hve : v = .int x.2.2[j] tv := by
        have hv2 : vs[j]? = some v := by simpa using hv
        rw [hv'] at hv2; exact (Option.some.inj hv2).symm
      subst hve
      have hLs' : ∀ b o, s.heap.get? b = some o → s''.heap.get? b = some o := fun b o e => g5 b o (fun q => by
        simp only [List.mem_cons, List.not_mem_nil, or_false] at q
        rcases q with q | q | q
        · rw [q, hLnew] at e; cases e
        · rw [q, hDs] at e; cases e
        · rw [q, hI2s] at e; cases e) (h4 b o e)
      have hIl : ∃ o, s''.heap.get? I = some o := let ⟨o, e⟩ := hIlive; ⟨o, g5 I o (by simp only [List.mem_cons, List.not_mem_nil, or_false, not_or]; exact ⟨Ne.symm hIL, Ne.symm hID, hI2I⟩) e⟩
      have hI2l' : ∃ o, s''.heap.get? I₂ = some o := let ⟨o, e, _⟩ := hs1; ⟨o, e⟩
      have hlen1 : (edg (g.take i) ++ ((x.2.2.take j).map fun v => (x.1, v))).length < 1000 := by
        refine Nat.lt_of_le_of_lt ?_ hsz
        have e1 : edg g = edg (g.take i) ++ edg (g.drop i) := by unfold edg; rw [← List.flatMap_append, List.take_append_drop]
        have e2 : g.drop i = x :: g.drop (i + 1) := by
          obtain ⟨hlt, e⟩ := List.getElem?_eq_some_iff.mp hx
          rw [← e]; exact List.drop_eq_getElem_cons hlt
        have e3 : edg (g.drop i) = (x.2.2.map fun v => (x.1, v)) ++ edg (g.drop (i + 1)) := by rw [e2]; rfl
        rw [e1, e3, List.length_append, List.length_append, List.length_append, List.length_map, List.length_map, List.length_take]
        omega
      refine wpAny_mono (rev_body (a := a) (cd := cd) (E := fun _ _ => False) (m := upd m'' "val" (.int x.2.2[j] tv)) G hmt hLs' hn'' (by rw [upd_ne (by decide)]; exact g2) (by rw [upd_ne (by decide)]; exact g3) upd_same g6 hDL (Nat.lt_trans hds hdl1)
        (fun y hy q => (g8 y hy).1 (by rw [q]; simp)) g7 hlen1 (Q := fun f s₃ => f = .next ∧ ∃ h' tok rd'' T, s₃ = { s'' with heap := h', toks := tok } ∧ Fm [D] s''.heap h' ∧ TDict prog w h' D rd'' ∧
          RInv ((edg (g.take i) ++ ((x.2.2.take j).map fun v => (x.1, v))) ++ [(x.1, x.2.2[j])]) rd'' ∧ (∀ y ∈ rd'', y ∈ rd' ∨ (y.2.1 = T ∧ s''.heap.get? T = none)) ∧ h'.Ns L (upd m'' "val" (.int x.2.2[j] tv)))
        (fun h' tok rd'' T a1 a2 a3 a4 a5 => ⟨rfl, h', tok, rd'', T, rfl, a1, a2, a3, a4, a5⟩)) ?_ fun _ _ e => e
      rintro f s₃ ⟨rfl, h', tok, rd'', T, rfl, a1, a2, a3, a4, a5⟩
      refine ⟨_, a5, fun b hb o e => a1 b o (fun q => ?_) e, by rw [upd_ne (by decide)]; exact g1, by rw [upd_ne (by decide)]; exact g2, by rw [upd_ne (by decide)]; exact g3, ⟨tok, by rw [g4]⟩,
        g5.trans (a1.mono fun b hb => by simp only [List.mem_cons, List.not_mem_nil, or_false] at hb ⊢; exact .inr (.inl hb)), rd'', a2, ?_, fun y hy => ?_⟩
      · simp only [List.mem_cons, List.not_mem_nil, or_false] at q hb
        rcases hb with hb | hb
        · exact hI2D (q.symm.trans hb)
        · exact hlD (hb.symm.trans q)
      · rw [List.take_add_one, List.map_append]
        rw [List.append_assoc] at a3
        simpa [hj'] using a3
      · rcases a4 y hy with q | ⟨q, hT⟩
        · exact g8 y q
        · rw [q]
          refine ⟨?_, ?_⟩
          · simp only [List.mem_cons, List.not_mem_nil, or_false, not_or]
            exact ⟨fun q => ne_of_get' (Ns_live hn'') hT q.symm, fun q => ne_of_get' (DictOf_live g6.1) hT q.symm, fun q => ne_of_get' hIl hT q.symm, fun q => ne_of_get' hI2l' hT q.symm⟩
          · cases e : s.heap.get? T with
            | none => rfl
            | some o => rw [hLs' _ _ e] at hT; cases hT
    · rintro m'' s'' ⟨g1, g2, g3, ⟨tk', g4⟩, g5, rd', g6, g7, g8⟩ hn''
      refine wpAny_execs_nil ⟨_, hn'', fun b hb o e => g5 b o (fun q => ?_) e, g1, g2, ⟨tk', g4⟩, fun b o e => g5 b o (fun q => ?_) (h4 b o e), rd', g6, ?_, fun y hy => ⟨fun q => (g8 y hy).1 ?_, (g8 y hy).2⟩⟩
      · simp only [List.mem_cons, List.not_mem_nil, or_false] at q hb
        rcases hb with rfl | rfl <;> rcases q with q | q | q
        · exact hIL q.symm
        · exact hID q.symm
        · exact hI2I q
        · exact hdL q.symm
        · exact hdD q.symm
        · exact ne_of_get' (DictOf_live hd'.1) hI2n q
      · simp only [List.mem_cons, List.not_mem_nil, or_false] at q
        rcases q with q | q | q
        · rw [q, hLnew] at e; cases e
        · rw [q, hDs] at e; cases e
        · rw [q, hI2s] at e; cases e
      · rw [hvl, List.take_length] at g7
        rw [edg_take_succ hx]; exact g7
      · simp only [List.mem_cons, List.not_mem_nil, or_false] at q ⊢
        rcases q with q | q | q
        · exact .inl q
        · exact .inr (.inl q)
        · exact .inr (.inr (.inl q))
  · rintro m' s' ⟨h1, h2, ⟨tk', h3⟩, h4, rd, h5, h6, h7⟩ hn'
    refine wpAny_execs_cons (wpAny_Return_some (nm_loc hn' h2 ?_))
    rw [hlen, List.take_length] at h6
    show R (.ok (.ret (.ref D))) s'
    rw [h3]
    refine h _ _ D rd h4 hDs (Nat.lt_trans hds hdl1) h5 h6 fun x hx => ⟨fun q => (h7 x hx).1 (by simp [q]), (h7 x hx).2⟩
end
end Mine
end

-- part B1
section
open PySem PySem.W PyProof.Rows PySem.Calls
set_option maxRecDepth 100000
namespace Mine

/-- a turn of a comprehension's clause -/
def TurnOf (tgt iter : Expr) (ifs : List Expr) (env : Env) (it : Value) (body : Sem Unit) (c : Code) : Sem Fin := do
  standAt iter.pos
  match ← pyNext it with
  | none => pure (.done .next)
  | some v =>
    letOwnedTupleGo tgt it v
    assign tgt env v
    let mut ok := true
    for c in ifs do
      if ok then ok ← isTrue c env (eval c env)
    if ok then body
    again c

def tests (ifs : List Expr) (env : Env) : Sem Bool := forIn ifs true fun c r => if r = true then do let ok ← isTrue c env (eval c env); pure (ForInStep.yield ok) else pure (ForInStep.yield r)

section
variable {prog : Program} {w : World} {A : Around} {R : Result → Shared → Prop} {s : Shared} {env : Env} {E : Value → Shared → Prop}

theorem tests_nil {Q : Bool → Shared → Prop} (h : Q true s) : wpAny (model prog w) A (tests [] env) Q E s := wpAny_pure h
theorem tests_one {c : Expr} {Q : Bool → Shared → Prop} (h : wpAny (model prog w) A (isTrue c env (eval c env)) Q E s) : wpAny (model prog w) A (tests [c] env) Q E s := by
  unfold tests
  rw [List.forIn_cons]
  simp only [if_true]
  refine wpAny_bind (wpAny_bind (wpAny_mono h (fun b s' hb => wpAny_pure ?_) fun _ _ e => e))
  exact wpAny_pure hb

theorem compLoop_gen {c : Code} {tgt iter : Expr} {ifs : List Expr} {body : Sem Unit} {I : Addr} {fp wr : List Addr} {n : Nat} {P : Nat → Value → Prop} {St : Nat → Heap → Prop}
    (hden : (model prog w).den c = (TurnOf tgt iter ifs env (.ref I) body c).onRaise (fun x => do noteFrame x env; theTreesLotGoes x)) (hq : c.quiet = true) (hA : A.under c = A)
    (W : Walks prog w A I fp wr n P St) (J : Nat → Shared → Prop) (hst : St 0 s.heap) (h0 : J 0 s) (ht : ∀ v, letOwnedTupleGo tgt (.ref I) v = pure ())
    (step : ∀ i v s h' tk, i < n → P i v → J i s → St (i + 1) h' → Fm wr s.heap h' →
      wpAny (model prog w) A (assign tgt env v) (fun _ s₂ => wpAny (model prog w) A (tests ifs env) (fun ok s₃ =>
        if ok = true then wpAny (model prog w) A body (fun _ s₄ => St (i + 1) s₄.heap ∧ J (i + 1) s₄) (fun _ _ => False) s₃
        else St (i + 1) s₃.heap ∧ J (i + 1) s₃) (fun _ _ => False) s₂) (fun _ _ => False) { s with heap := h', toks := tk })
    (fin : ∀ s h' tk, J n s → Fm wr s.heap h' → R (.ok .next) { s with heap := h', toks := tk }) :
    codeAny (model prog w) A c R s := by
  refine codeAny_loop hq (fun k s' => ∃ i, k = n + 1 - i ∧ i ≤ n ∧ St i s'.heap ∧ J i s') ?_ (n + 1) ⟨0, rfl, Nat.zero_le _, hst, h0⟩
  rintro k s' ⟨i, rfl, hi, hst', hJ⟩
  rw [hA, hden]
  refine wpAny_noted ?_
  unfold TurnOf
  refine wpAny_bind (wpAny_standAt (wpAny_bind ?_))
  by_cases hlt : i < n
  · refine W.item i _ _ _ hlt hst' fun v h₁ tk₁ hP hst₁ hk₁ => ?_
    refine wpAny_bind (wpAny_of_eq (ht v) ?_)
    refine wpAny_bind (wpAny_mono (step i v s' h₁ tk₁ hlt hP hJ hst₁ fun b o hb e => hk₁ b o hb e) (fun _ s₂ h₂ => ?_) fun _ _ f => f.elim)
    refine wpAny_bind (wpAny_mono h₂ (fun ok s₃ h₃ => ?_) fun _ _ f => f.elim)
    cases ok with
    | false => exact wpAny_pure ⟨rfl, n + 1 - (i + 1), by omega, i + 1, rfl, hlt, h₃⟩
    | true =>
      refine wpAny_bind (wpAny_mono h₃ (fun _ s₄ h₄ => ?_) fun _ _ f => f.elim)
      exact wpAny_pure ⟨rfl, n + 1 - (i + 1), by omega, i + 1, rfl, hlt, h₄⟩
  · have hin : i = n := by omega
    subst hin
    refine W.done _ _ _ hst' fun h₁ tk₁ hk₁ => ?_
    exact wpAny_pure (fin s' h₁ tk₁ hJ fun b o hb e => hk₁ b o hb e)

def bodyList (elt : Expr) (D : Addr) (env : Env) : Sem Unit := do let _ ← call (.builtin "list.append") [.ref D, ← eval elt env]
def bodyDict (kx vx : Expr) (D : Addr) (env : Env) : Sem Unit := do
  let kv ← eval kx env
  let vv ← holding [kv] (eval vx env)
  standAt { kx.pos with endLine := vx.pos.endLine, endCol := vx.pos.endCol }
  holding [kv, vv] (dictSet D kv vv)

theorem compLoop_list {tgt iter elt : Expr} {ifs : List Expr} {scope : Scope} {pos : Pos} {D I : Addr} {fp wr : List Addr} {n : Nat} {P : Nat → Value → Prop} {St : Nat → Heap → Prop}
    (W : Walks prog w A I fp wr n P St) (J : Nat → Shared → Prop) (hst : St 0 s.heap) (h0 : J 0 s) (ht : ∀ v, letOwnedTupleGo tgt (.ref I) v = pure ())
    (step : ∀ i v s h' tk, i < n → P i v → J i s → St (i + 1) h' → Fm wr s.heap h' →
      wpAny (model prog w) A (assign tgt env v) (fun _ s₂ => wpAny (model prog w) A (tests ifs env) (fun ok s₃ =>
        if ok = true then wpAny (model prog w) A (bodyList elt D env) (fun _ s₄ => St (i + 1) s₄.heap ∧ J (i + 1) s₄) (fun _ _ => False) s₃
        else St (i + 1) s₃.heap ∧ J (i + 1) s₃) (fun _ _ => False) s₂) (fun _ _ => False) { s with heap := h', toks := tk })
    (fin : ∀ s h' tk, J n s → Fm wr s.heap h' → R (.ok .next) { s with heap := h', toks := tk }) :
    codeAny (model prog w) A (.compStart (.ListComp elt [⟨tgt, iter, ifs, 0⟩] scope pos) 0 (.ref I) (.ref D) env) R s := by
  have loop := compLoop_gen (prog := prog) (w := w) (A := A) (R := R) (s := s) (env := env) (c := .compLoop (.ListComp elt [⟨tgt, iter, ifs, 0⟩] scope pos) 0 (.ref I) (.ref D) env) (tgt := tgt) (iter := iter) (ifs := ifs) (body := bodyList elt D env)
    (by rfl) rfl rfl W J hst h0 ht step fin
  exact codeAny_compStart_list loop (W.self 0 _ _ _ hst loop)

theorem compLoop_dict {tgt iter kx vx : Expr} {ifs : List Expr} {scope : Scope} {pos : Pos} {D I : Addr} {fp wr : List Addr} {n : Nat} {P : Nat → Value → Prop} {St : Nat → Heap → Prop}
    (W : Walks prog w A I fp wr n P St) (J : Nat → Shared → Prop) (hst : St 0 s.heap) (h0 : J 0 s) (ht : ∀ v, letOwnedTupleGo tgt (.ref I) v = pure ())
    (step : ∀ i v s h' tk, i < n → P i v → J i s → St (i + 1) h' → Fm wr s.heap h' →
      wpAny (model prog w) A (assign tgt env v) (fun _ s₂ => wpAny (model prog w) A (tests ifs env) (fun ok s₃ =>
        if ok = true then wpAny (model prog w) A (bodyDict kx vx D env) (fun _ s₄ => St (i + 1) s₄.heap ∧ J (i + 1) s₄) (fun _ _ => False) s₃
        else St (i + 1) s₃.heap ∧ J (i + 1) s₃) (fun _ _ => False) s₂) (fun _ _ => False) { s with heap := h', toks := tk })
    (fin : ∀ s h' tk, J n s → Fm wr s.heap h' → R (.ok .next) { s with heap := h', toks := tk }) :
    codeAny (model prog w) A (.compStart (.DictComp kx vx [⟨tgt, iter, ifs, 0⟩] scope pos) 0 (.ref I) (.ref D) env) R s := by
  have loop := compLoop_gen (prog := prog) (w := w) (A := A) (R := R) (s := s) (env := env) (c := .compLoop (.DictComp kx vx [⟨tgt, iter, ifs, 0⟩] scope pos) 0 (.ref I) (.ref D) env) (tgt := tgt) (iter := iter) (ifs := ifs) (body := bodyDict kx vx D env)
    (by rfl) rfl rfl W J hst h0 ht step fin
  exact codeAny_compStart_dict loop (W.self 0 _ _ _ hst loop)
end
end Mine
end

-- part B2
section
open PySem PySem.W PyProof.Rows PySem.Calls
set_option maxRecDepth 100000
namespace Mine
section
variable {prog : Program} {w : World} {A : Around} {R : Result → Shared → Prop} {s : Shared} {env : Env} {E : Value → Shared → Prop}

abbrev emptyList : Obj := { cls := .type "list", data := .seq #[] }
abbrev emptyDict : Obj := { cls := .type "dict", data := .dict #[] }

/-- a comprehension's own room: the thing D that it fills, the names C -/
def CompAt (prog : Program) (w : World) (A : Around) (o : Obj) (e : Expr) (scope : Scope) (cl : List (Str × Addr)) (env : Env) (it : Value) (RR : Value → Addr → Result → Shared → Prop) (s : Shared) : Prop :=
  ∀ D C h₁ tk, s.heap.get? D = none → s.heap.get? C = none → D ≠ C → (∀ b x, s.heap.get? b = some x → h₁.get? b = some x) → h₁.get? D = some o → h₁.Ns C (fun _ => none) → s.heap.objs.size ≤ D →
    codeAny (model prog w) A (.compStart e 0 it (.ref D) (compEnvC scope cl C env)) (RR (.ref D) C) { s with heap := h₁, toks := tk }

theorem compAt_of {o : Obj} {e : Expr} {scope : Scope} {cl : List (Str × Addr)} {it : Value} {RR : Value → Addr → Result → Shared → Prop} (hfree : o.isFreed = false)
    (hcell : ∀ y ∈ scope.names, y.2 ≠ .cell) (hkind : scope.kind = .function) {newAcc : Sem Value}
    (hnew : ∀ Q : Value → Shared → Prop, Q (.ref s.heap.objs.size) { s with heap := s.heap.push o } → wpAny (model prog w) A newAcc Q E s)
    (h : CompAt prog w A o e scope cl env it RR s) :
    wpAny (model prog w) A newAcc (fun acc s₃ => wpAny (model prog w) A (newFunctionEnv scope env.globals cl [] env.qual none .none (some env)) (fun cenv s₄ =>
      codeAny (model prog w) A (.compStart e 0 it acc { cenv with scope := relabel scope env }) (RR acc cenv.locals) s₄) E s₃) E s := by
  refine hnew _ (wpAny_newFunctionEnv hcell (by intro y hy; simp at hy) (fun h₁ hns₁ hsb₁ => ?_) hkind)
  dsimp only at hns₁ hsb₁ ⊢
  rw [Heap.size_push] at hns₁ hsb₁
  have e1 : (s.heap.push o).objs.size = s.heap.objs.size + 1 := Heap.size_push ..
  have hgo := h s.heap.objs.size (s.heap.objs.size + 1) h₁ (s.toks + ([] : List (Str × Value)).length) (get_size _) (Heap.get?_none_of_le (Nat.le_succ _)) (Nat.ne_of_lt (Nat.lt_succ_self _))
    (fun b x q => hsb₁.extBut b x (Nat.ne_of_lt (Nat.lt_succ_of_lt (Heap.lt_size q))) (Heap.get?_push_of_some _ (Heap.get?_push_of_some _ q)))
    (hsb₁.extBut _ _ (Nat.ne_of_lt (Nat.lt_succ_self _)) (Heap.get?_push_of_some _ (Heap.get?_push_size _ hfree))) hns₁ (Nat.le_refl _)
  unfold newEnv
  dsimp only
  rw [e1]
  exact hgo

theorem iter_list {l : Addr} {items : Array Value} {Q : Value → Shared → Prop} (hl : s.heap.IsList l items)
    (h : ∀ I h', s.heap.get? I = none → (∀ b o, s.heap.get? b = some o → h'.get? b = some o) → h'.IsListIter I l 0 → Q (.ref I) { s with heap := h' }) :
    wpAny (model prog w) A (pyIter (.ref l)) Q E s :=
  wpAny_pyIter_list hl (h _ _ (get_size _) (fun b o e => Heap.get?_push_of_some _ e) ⟨_, Heap.get?_push_size _ rfl, rfl, rfl⟩)
theorem iter_dict {d : Addr} {kvs : List (Int × Value)} {Q : Value → Shared → Prop} (hd : (d == sysModules) = false) (hm : s.heap.DictOf (intKind prog w) d kvs)
    (h : ∀ I h' ep, s.heap.get? I = none → (∀ b o, s.heap.get? b = some o → h'.get? b = some o) → h'.IsKeyIter I d 0 kvs.length ep → h'.DictAt (intKind prog w) d kvs ep → Q (.ref I) { s with heap := h' }) :
    wpAny (model prog w) A (pyIter (.ref d)) Q E s := by
  obtain ⟨ep, hat⟩ := hm.dictAt
  exact wpAny_pyIter_dict hd hat (h _ _ ep (get_size _) (fun b o e => Heap.get?_push_of_some _ e) ⟨_, Heap.get?_push_size _ rfl, rfl, rfl⟩ (hat.push _))

theorem ListComp_J {elt tgt iter : Expr} {ifs : List Expr} {rest : List Comprehension} {scope : Scope} {cl : List (Str × Addr)} {pos : Pos} {Q : Value → Shared → Prop}
    (hclos : closureFor scope env = pure cl) (hcell : ∀ y ∈ scope.names, y.2 ≠ .cell) (hkind : scope.kind = .function)
    (hnames : ∀ y ∈ scope.names, y.2 = .local → scope.names.lookup y.1 = some .local)
    (h : wpAny (model prog w) A (eval iter env) (fun xv s₁ => wpAny (model prog w) A (pyIter xv) (fun it s₂ =>
      CompAt prog w A emptyList (.ListComp elt (⟨tgt, iter, ifs, 0⟩ :: rest) scope pos) scope cl env it (fun acc C => compPost (model prog w) A E none Q acc C) s₂) E s₁) E s)
    (hs : ∀ x, foldedSetIterable iter env x = pure x := by intro _; rfl) :
    wpAny (model prog w) A (eval (.ListComp elt (⟨tgt, iter, ifs, 0⟩ :: rest) scope pos) env) Q E s := by
  rw [eval_ListComp]
  refine wpAny_comprehension_free (use := none) rfl hs hclos hkind hnames (wpAny_mono h (fun xv s₁ h₁ => wpAny_mono h₁ (fun it s₂ h₂ => ?_) fun _ _ e => e) fun _ _ e => e)
  exact compAt_of rfl hcell hkind (fun Q hQ => wpAny_newObj_type hQ) h₂

theorem DictComp_J {kx vx tgt iter : Expr} {ifs : List Expr} {scope : Scope} {cl : List (Str × Addr)} {pos : Pos} {Q : Value → Shared → Prop}
    (hclos : closureFor scope env = pure cl) (hcell : ∀ y ∈ scope.names, y.2 ≠ .cell) (hkind : scope.kind = .function)
    (hnames : ∀ y ∈ scope.names, y.2 = .local → scope.names.lookup y.1 = some .local)
    (h : wpAny (model prog w) A (eval iter env) (fun xv s₁ => wpAny (model prog w) A (pyIter xv) (fun it s₂ =>
      CompAt prog w A emptyDict (.DictComp kx vx [⟨tgt, iter, ifs, 0⟩] scope pos) scope cl env it (fun acc C => compPost (model prog w) A E none Q acc C) s₂) E s₁) E s)
    (hs : ∀ x, foldedSetIterable iter env x = pure x := by intro _; rfl) :
    wpAny (model prog w) A (eval (.DictComp kx vx [⟨tgt, iter, ifs, 0⟩] scope pos) env) Q E s := by
  rw [arm_eval_DictComp]
  refine wpAny_comprehension_free (use := none) rfl hs hclos hkind hnames (wpAny_mono h (fun xv s₁ h₁ => wpAny_mono h₁ (fun it s₂ h₂ => ?_) fun _ _ e => e) fun _ _ e => e)
  exact compAt_of rfl hcell hkind (fun Q hQ => wpAny_newObj_type hQ) h₂

/-- the name that takes the comprehension's value is bound ahead of the comprehension's own names' going -/
theorem Assign_ListComp_J {elt tgt iter y : Expr} {ifs : List Expr} {rest : List Comprehension} {scope : Scope} {cl : List (Str × Addr)} {pos spos : Pos} {ny : Str} {py : Pos} {Q : Flow → Shared → Prop} (hy : y = .Name ny py)
    (hsw : swapsWith (.ListComp elt (⟨tgt, iter, ifs, 0⟩ :: rest) scope pos) (some (.Name ny py)) spos.line env = pure true)
    (hclos : closureFor scope env = pure cl) (hcell : ∀ y ∈ scope.names, y.2 ≠ .cell) (hkind : scope.kind = .function)
    (hnames : ∀ y ∈ scope.names, y.2 = .local → scope.names.lookup y.1 = some .local)
    (h : wpAny (model prog w) A (eval iter env) (fun xv s₁ => wpAny (model prog w) A (pyIter xv) (fun it s₂ =>
      CompAt prog w A emptyList (.ListComp elt (⟨tgt, iter, ifs, 0⟩ :: rest) scope pos) scope cl env it (fun acc C => compPost (model prog w) A E (some (assign (.Name ny py) env)) (fun _ s' => Q .next s') acc C) s₂) E s₁) E s)
    (hs : ∀ x, foldedSetIterable iter env x = pure x := by intro _; rfl) :
    wpAny (model prog w) A (exec (.Assign [y] (.ListComp elt (⟨tgt, iter, ifs, 0⟩ :: rest) scope pos) spos) env) Q E s := by
  subst hy
  rw [exec_Assign_Name_used _ _ _ _ hsw]
  refine wpAny_bind (wpAny_standAt (wpAny_bind ?_))
  show wpAny _ A (do let _ ← comprehension (.ListComp elt (⟨tgt, iter, ifs, 0⟩ :: rest) scope pos) scope env _ (newList []) false (eval iter env) (some (assign (.Name ny py) env))) _ _ s
  refine wpAny_bind (wpAny_mono (wpAny_comprehension_free (use := some (assign (.Name ny py) env)) (Q := fun _ s' => Q .next s') rfl hs hclos hkind hnames
    (wpAny_mono h (fun xv s₁ h₁ => wpAny_mono h₁ (fun it s₂ h₂ => ?_) fun _ _ e => e) fun _ _ e => e)) (fun _ s' hq => wpAny_pure (wpAny_pure hq)) fun _ _ e => e)
  exact compAt_of rfl hcell hkind (fun Q hQ => wpAny_newObj_type hQ) h₂

theorem Assign_DictComp_J {kx vx tgt iter y : Expr} {ifs : List Expr} {scope : Scope} {cl : List (Str × Addr)} {pos spos : Pos} {ny : Str} {py : Pos} {Q : Flow → Shared → Prop} (hy : y = .Name ny py)
    (hsw : swapsWith (.DictComp kx vx [⟨tgt, iter, ifs, 0⟩] scope pos) (some (.Name ny py)) spos.line env = pure true)
    (hclos : closureFor scope env = pure cl) (hcell : ∀ y ∈ scope.names, y.2 ≠ .cell) (hkind : scope.kind = .function)
    (hnames : ∀ y ∈ scope.names, y.2 = .local → scope.names.lookup y.1 = some .local)
    (h : wpAny (model prog w) A (eval iter env) (fun xv s₁ => wpAny (model prog w) A (pyIter xv) (fun it s₂ =>
      CompAt prog w A emptyDict (.DictComp kx vx [⟨tgt, iter, ifs, 0⟩] scope pos) scope cl env it (fun acc C => compPost (model prog w) A E (some (assign (.Name ny py) env)) (fun _ s' => Q .next s') acc C) s₂) E s₁) E s)
    (hs : ∀ x, foldedSetIterable iter env x = pure x := by intro _; rfl) :
    wpAny (model prog w) A (exec (.Assign [y] (.DictComp kx vx [⟨tgt, iter, ifs, 0⟩] scope pos) spos) env) Q E s := by
  subst hy
  rw [exec_Assign_Name_used _ _ _ _ hsw]
  refine wpAny_bind (wpAny_standAt (wpAny_bind ?_))
  show wpAny _ A (do let _ ← comprehension (.DictComp kx vx [⟨tgt, iter, ifs, 0⟩] scope pos) scope env _ newDict false (eval iter env) (some (assign (.Name ny py) env))) _ _ s
  refine wpAny_bind (wpAny_mono (wpAny_comprehension_free (use := some (assign (.Name ny py) env)) (Q := fun _ s' => Q .next s') rfl hs hclos hkind hnames
    (wpAny_mono h (fun xv s₁ h₁ => wpAny_mono h₁ (fun it s₂ h₂ => ?_) fun _ _ e => e) fun _ _ e => e)) (fun _ s' hq => wpAny_pure (wpAny_pure hq)) fun _ _ e => e)
  exact compAt_of rfl hcell hkind (fun Q hQ => wpAny_newObj_type hQ) h₂

theorem post_loc {D C : Addr} {x : Str} {px : Pos} {m mc : Str → Option Value} {Q : Flow → Shared → Prop} (hn : s.heap.Ns env.locals m) (hC : s.heap.Ns C mc) (hLC : env.locals ≠ C)
    (h : ∀ h' tk, h'.Ns env.locals (upd m x (.ref D)) → Fm [env.locals, C] s.heap h' → Q .next { s with heap := h', toks := tk })
    (hl : env.kindOf x = some .local := by rfl) (hp : (env.scope.kind == .class || (env.scope.kind == .module && env.locals != env.globals)) = false := by rfl) :
    compPost (model prog w) A E (some (assign (.Name x px) env)) (fun _ s' => Q .next s') (.ref D) C (.ok .next) s := by
  show wpAny _ _ (assign (.Name x px) env (.ref D)) _ _ _
  refine wpAny_assign_Name (wpAny_storeName_local hl hn (fun h₂ hn₂ hs₂ => ?_) hp)
  refine ⟨mc, hC.sameBut hs₂ (Ne.symm hLC), fun h₃ hs₃ => ?_⟩
  refine h h₃ _ (hn₂.sameBut hs₃ hLC) fun b o hb e => ?_
  simp only [List.mem_cons, List.not_mem_nil, or_false, not_or] at hb
  exact hs₃.extBut b o hb.2 (hs₂.extBut b o hb.1 e)

theorem post_cell {D C c : Addr} {x : Str} {px : Pos} {v₀ : Option Value} {mc : Str → Option Value} {Q : Flow → Shared → Prop} (hc : env.cells.lookup x = some c) (hv : s.heap.IsCell c v₀) (hC : s.heap.Ns C mc) (hcC : c ≠ C)
    (h : ∀ h' tk, h'.IsCell c (some (.ref D)) → Fm [c, C] s.heap h' → Q .next { s with heap := h', toks := tk })
    (hk : env.scope.kind = .function := by rfl) (hl : env.kindOf x = some .cell := by rfl) :
    compPost (model prog w) A E (some (assign (.Name x px) env)) (fun _ s' => Q .next s') (.ref D) C (.ok .next) s := by
  show wpAny _ _ (assign (.Name x px) env (.ref D)) _ _ _
  refine wpAny_assign_Name (wpAny_storeName_cell hk hl hc hv (fun h₂ hv₂ hs₂ => ?_))
  refine ⟨mc, hC.sameBut hs₂ (Ne.symm hcC), fun h₃ hs₃ => ?_⟩
  refine h h₃ _ (hv₂.sameBut hs₃ hcC) fun b o hb e => ?_
  simp only [List.mem_cons, List.not_mem_nil, or_false, not_or] at hb
  exact hs₃.extBut b o hb.2 (hs₂.extBut b o hb.1 e)

theorem post_none {D C : Addr} {mc : Str → Option Value} {Q : Value → Shared → Prop} (hC : s.heap.Ns C mc) (h : ∀ h', Heap.SameBut C s.heap h' → Q (.ref D) { s with heap := h' }) :
    compPost (model prog w) A E none Q (.ref D) C (.ok .next) s := ⟨mc, hC, h⟩
end
end Mine
end

-- part C1
section
open PySem PySem.W PyProof.Rows PySem.Calls
set_option maxRecDepth 100000
namespace Mine

def nm (k : Nat) : Int := (5 * (k : Int) + 2) % 7
def nms (sz : Nat) : List Int := (List.range sz).map nm
structure GG (sz : Nat) (g : List (Int × Addr × List Int)) : Prop where
  keys : g.map (·.1) = nms sz
  nodup : ∀ x ∈ g, x.2.2.Nodup
  sub : ∀ x ∈ g, ∀ v ∈ x.2.2, v ∈ nms sz

section
variable {prog : Program} {w : World} {A : Around} {E : Value → Shared → Prop} {s : Shared}
theorem notin_ints {l : Addr} {vs : List Value} {ns : List Int} {k : Int} {t : Tok} {Q : Value → Shared → Prop} (hl : s.heap.IsList l vs.toArray) (hi : IntsAre vs ns) (h : Q (.bool (decide (k ∉ ns))) s) :
    wpAny (model prog w) A (compareOp .NotIn (.int k t) (.ref l)) Q E s := by
  refine KTD.notin_nums (h₀ := s.heap) ⟨vs, hl, hi⟩ (fun _ _ e => e) ?_
  have e : (!KTD.inNums k ns) = decide (k ∉ ns) := by
    rw [← KTD.any_nums]
    by_cases q : k ∈ ns
    · simp [q]
    · simp only [q, not_false_eq_true, decide_true, Bool.not_eq_true', List.any_eq_false, beq_iff_eq]
      exact fun x hx e => q (e ▸ hx)
  rw [e]; exact h
theorem in_ints {l : Addr} {vs : List Value} {ns : List Int} {k : Int} {t : Tok} {Q : Value → Shared → Prop} (hl : s.heap.IsList l vs.toArray) (hi : IntsAre vs ns) (h : Q (.bool (decide (k ∈ ns))) s) :
    wpAny (model prog w) A (compareOp .In (.int k t) (.ref l)) Q E s := by
  refine KTD.in_nums (h₀ := s.heap) ⟨vs, hl, hi⟩ (fun _ _ e => e) ?_
  have e : KTD.inNums k ns = decide (k ∈ ns) := by
    rw [← KTD.any_nums]
    by_cases q : k ∈ ns
    · simp [q]
    · simp only [q, decide_false, List.any_eq_false, beq_iff_eq]
      exact fun x hx e => q (e ▸ hx)
  rw [e]; exact h
theorem methodOn_append {pos : Pos} {l : Addr} {t : Sem Value} {Q : Value → Shared → Prop} {vs₀ : Array Value} (hl : s.heap.PlainList l vs₀)
    (h : wpAny (model prog w) A t (fun v s₁ => ∃ vs, s₁.heap.PlainList l vs ∧ vs.size ≤ sizeLine ∧ ∀ h', h'.PlainList l (vs.push v) → Heap.SameBut l s₁.heap h' → Q .none { s₁ with heap := h' }) E s) :
    MethodOn prog w A "append" pos (.ref l) [(false, t)] Q E s := by
  refine ⟨"list", "list.append", PySem.F.plainAttrs_list, PySem.F.slot_list_append, PySem.F.type_list_append, hl.isList.typeIs, fun a e => by injection e with e; subst e; obtain ⟨n, e⟩ := hl; exact ⟨_, e, rfl⟩, ?_⟩
  refine callWith_builtin rfl (evalArgs_plain (spliced_cons (wpAny_mono h (fun v s₁ ⟨vs, hv, hz, hQ⟩ => spliced_nil ?_) fun _ _ e => e)))
  exact wpAny_list_append_plain hv hQ hz
end
end Mine
end

-- part C2
section
open PySem PySem.W PyProof.Rows PySem.Calls
set_option maxRecDepth 100000
namespace Mine
section
variable {prog : Program} {w : World} {A : Around} {E : Value → Shared → Prop} {s : Shared}
def graphBody : List Stmt := match graphD.body with
  | [_, _, .For _ _ b _ _, _] => b
  | _ => []


theorem sub_gen {value slice : Expr} {pos : Pos} {Q : Value → Shared → Prop} {env : Env}
    (h : wpAny (model prog w) A (eval value env) (fun o s₁ => wpAny (model prog w) A (eval slice env) (fun i s₂ => SubscriptOn (model prog w) A o i Q E s₂) E s₁) E s)
    (hsub : ∀ o i, subscripted slice false o i = operate [o, i] (getItem o i) := by intro _ _; rfl)
    (ht : ∀ o r, letTemporaryGo value o r = pure () := by intro _ _; rfl) :
    wpAny (model prog w) A (eval (.Subscript value slice pos) env) Q E s := by
  rw [eval_Subscript]
  refine wpAny_bind (wpAny_mono h (fun o s₁ h₁ => wpAny_bind (wpAny_holding (wpAny_mono h₁ (fun i s₂ h₂ => wpAny_bind (wpAny_standAt ?_)) fun _ _ x => x))) fun _ _ x => x)
  obtain ⟨T, id, hl, hT, hg⟩ := h₂
  refine wpAny_bind ?_
  rw [getitemInPython_of_ne hT.not_modules]
  refine wpAny_bind (wpAny_specialOf hT hl ?_)
  refine wpAny_pure (wpAny_bind ?_)
  rw [hsub]
  exact wpAny_operating (wpAny_mono hg (fun r s₃ h₃ => wpAny_bind (wpAny_of_eq (ht o r) (wpAny_pure h₃))) fun _ _ x => x)

theorem nodup_length_le : ∀ (l m : List Int), l.Nodup → (∀ x ∈ l, x ∈ m) → l.length ≤ m.length
  | [], _, _, _ => Nat.zero_le _
  | x :: r, m, hn, hs => by
    rw [List.nodup_cons] at hn
    have hx := hs x List.mem_cons_self
    have ih := nodup_length_le r (m.erase x) hn.2 fun y hy => (List.mem_erase_of_ne (fun e => hn.1 (by rw [← e]; exact hy))).mpr (hs y (List.mem_cons_of_mem _ hy))
    rw [List.length_erase_of_mem hx] at ih
    have := List.length_pos_of_mem hx
    rw [List.length_cons]; omega
theorem inj_of_nodup {α β : Type} (f : α → β) : ∀ {l : List α}, (l.map f).Nodup → ∀ {x y : α}, x ∈ l → y ∈ l → f x = f y → x = y
  | [], _, _, _, hx, _, _ => (nomatch hx)
  | z :: r, hn, x, y, hx, hy, e => by
    rw [List.map_cons, List.nodup_cons] at hn
    rcases List.mem_cons.mp hx with ex | hx
    · rcases List.mem_cons.mp hy with ey | hy
      · rw [ex, ey]
      · rw [ex] at e; exact absurd (List.mem_map.mpr ⟨y, hy, e.symm⟩) hn.1
    · rcases List.mem_cons.mp hy with ey | hy
      · rw [ey] at e; exact absurd (List.mem_map.mpr ⟨x, hx, e⟩) hn.1
      · exact inj_of_nodup f hn.2 hx hy e

theorem nms_get {sz k : Nat} (h : k < sz) : (nms sz)[k]? = some (nm k) := by
  unfold nms; rw [List.getElem?_map, List.getElem?_range h]; rfl
theorem nm_mem {sz k : Nat} (h : k < sz) : nm k ∈ nms sz := List.mem_map.mpr ⟨k, List.mem_range.mpr h, rfl⟩
theorem nms_len (sz : Nat) : (nms sz).length = sz := by unfold nms; simp

def graphTail : List Stmt := graphBody.drop 3
set_option maxHeartbeats 2000000 in
theorem graph_tail {L a : Addr} {cd : Value} {m : Str → Option Value} {N D : Addr} {sz : Nat} {av bv : Int} {ta tb : Tok} {g : List (Int × Addr × List Int)} {vsN : List Value} {Q : Flow → Shared → Prop}
    (h6 : sz ≤ 6) (hn : s.heap.Ns L m) (hmN : m "names" = some (.ref N)) (hmD : m "after" = some (.ref D)) (hma : m "a" = some (.int av ta)) (hmb : m "b" = some (.int bv tb))
    (ha0 : 0 ≤ av) (ha1 : av < sz) (hb0 : 0 ≤ bv) (hb1 : bv < sz)
    (hN : s.heap.IsList N vsN.toArray) (hNi : IntsAre vsN (nms sz)) (hD : LDict prog w s.heap D g) (G : GG sz g) (hap : (g.map (·.2.1)).Nodup)
    (hoff : ∀ x ∈ g, x.2.1 ≠ L ∧ x.2.1 ≠ D ∧ x.2.1 ≠ N)
    (h : ∀ h' tok g', Fm (g.map (·.2.1)) s.heap h' → LDict prog w h' D g' → GG sz g' → g'.map (·.2.1) = g.map (·.2.1) → h'.Ns L m → Q .next { s with heap := h', toks := tok }) :
    wpAny (model prog w) A (execs graphTail (envOf graphD.name graphD.scope L a cd)) Q E s := by
  have hal : av.toNat < sz := by omega
  have hbl : bv.toNat < sz := by omega
  obtain ⟨ua, eua⟩ := hNi.get _ _ (nms_get hal)
  obtain ⟨ub, eub⟩ := hNi.get _ _ (nms_get hbl)
  have hkx : nm av.toNat ∈ g.map (·.1) := by rw [G.keys]; exact nm_mem hal
  obtain ⟨⟨T, l⟩, hrow⟩ := rget_some_of hkx
  have hxm := rget_mem hrow
  have hval : valueAt (g.map fun x => (x.1, Value.ref x.2.1)) (nm av.toNat) = some (.ref T) := by rw [valueAt_map (fun y : Addr × List Int => Value.ref y.1), hrow]; rfl
  obtain ⟨vl, hTl, hvl⟩ := hD.2 _ hxm
  have namesAt : ∀ (k : Int) (x : Str) (tk : Tok) (u : Tok) (px p1 p2 : Pos) (s' : Shared) (Q' : Value → Shared → Prop), s'.heap = s.heap → m x = some (.int k tk) → 0 ≤ k → k < sz → vsN[k.toNat]? = some (.int (nm k.toNat) u) →
      (envOf graphD.name graphD.scope L a cd).kindOf x = some .local → (x == ("__debug__" : Str)) = false → Q' (.int (nm k.toNat) u) s' →
      wpAny (model prog w) A (eval (.Subscript (.Name ("names" : Str) p1) (.Name x p2) px) (envOf graphD.name graphD.scope L a cd)) Q' E s' := by
    intro k x tk u px p1 p2 s' Q' es hx hk0 hk1 hv hloc hdb hQ
    refine wpAny_Subscript_Name_late (nm_loc (es ▸ hn) hmN (nm_loc (es ▸ hn) hx ?_ (hl := hloc) (hd := hdb)))
    exact sub_list (es ▸ hN) hk0 (by omega) (by simpa using hv) hQ
  have afterAt : ∀ (px p1 p2 p3 p4 : Pos) (s' : Shared) (Q' : Value → Shared → Prop), s'.heap = s.heap → Q' (.ref T) { s' with toks := s'.toks + 1 } →
      wpAny (model prog w) A (eval (.Subscript (.Name ("after" : Str) p1) (.Subscript (.Name ("names" : Str) p2) (.Name ("a" : Str) p3) p4) px) (envOf graphD.name graphD.scope L a cd)) Q' E s' := by
    intro px p1 p2 p3 p4 s' Q' es hQ
    refine sub_gen (nm_loc (es ▸ hn) hmD ?_)
    refine namesAt av "a" ta ua _ _ _ s' _ es hma ha0 ha1 eua (by rfl) (by decide) ?_
    exact sub_dict (es ▸ hD.1) hval hQ
  refine wpAny_execs_cons (wpAny_If (wpAny_isTrue_Compare1 ?_))
  refine namesAt bv "b" tb ub _ _ _ s _ rfl hmb hb0 hb1 eub (by rfl) (by decide) ?_
  refine afterAt _ _ _ _ _ s _ rfl ?_
  refine notin_ints (s := { s with toks := s.toks + 1 }) hTl.isList hvl (wpAny_truthy_bool ?_)
  by_cases hm : nm bv.toNat ∈ l
  · simp only [hm, not_true_eq_false, decide_false, Bool.false_eq_true, if_false]
    refine wpAny_execs_nil (wpAny_execs_nil ?_)
    exact h s.heap _ g Fm.refl hD G rfl hn
  · simp only [hm, not_false_eq_true, decide_true, if_true]
    refine wpAny_execs_cons (wpAny_Expr (wpAny_Call_method1_late (by rfl) (by rfl) (by rfl) ?_))
    refine afterAt _ _ _ _ _ { s with toks := s.toks + 1 } _ rfl ?_
    refine methodOn_append (s := { s with toks := s.toks + 1 + 1 }) hTl ?_
    refine namesAt bv "b" tb ub _ _ _ { s with toks := s.toks + 1 + 1 } _ rfl hmb hb0 hb1 eub (by rfl) (by decide) ?_
    have hll : l.length ≤ 6 := by
      have := nodup_length_le l (nms sz) (G.nodup _ hxm) (G.sub _ hxm)
      rw [nms_len] at this; omega
    refine ⟨vl.toArray, hTl, by rw [List.size_toArray, hvl.length, sizeLine_eq]; show l.length ≤ _; omega, fun h' hl' hs' => wpAny_execs_nil (wpAny_execs_nil ?_)⟩
    replace hs' : Heap.SameBut T s.heap h' := hs'
    have hTm : T ∈ g.map (·.2.1) := List.mem_map.mpr ⟨_, hxm, rfl⟩
    have hTo := hoff _ hxm
    have huniq : ∀ x ∈ g, x.2.1 = T → x = (nm av.toNat, T, l) := fun x hx e => inj_of_nodup (fun x : Int × Addr × List Int => x.2.1) hap hx hxm e
    let g' := g.map fun x => if x.2.1 = T then (x.1, x.2.1, x.2.2 ++ [nm bv.toNat]) else x
    have hg'1 : ∀ x ∈ g', (x ∈ g ∧ x.2.1 ≠ T) ∨ x = (nm av.toNat, T, l ++ [nm bv.toNat]) := by
      intro x hx
      obtain ⟨y, hy, rfl⟩ := List.mem_map.mp hx
      by_cases e : y.2.1 = T
      · rw [huniq y hy e]; simp
      · rw [if_neg e]; exact .inl ⟨hy, e⟩
    have eg1 : g'.map (fun x => (x.1, Value.ref x.2.1)) = g.map fun x => (x.1, Value.ref x.2.1) := by
      rw [List.map_map]; refine List.map_congr_left fun x _ => ?_
      simp only [Function.comp]; split <;> rfl
    have eg2 : g'.map (·.1) = g.map (·.1) := by
      rw [List.map_map]; refine List.map_congr_left fun x _ => ?_
      simp only [Function.comp]; split <;> rfl
    have eg3 : g'.map (·.2.1) = g.map (·.2.1) := by
      rw [List.map_map]; refine List.map_congr_left fun x _ => ?_
      simp only [Function.comp]; split <;> rfl
    refine h h' _ g' (Fm.same hs' hTm) ⟨?_, fun x hx => ?_⟩ ⟨?_, fun x hx => ?_, fun x hx v hv => ?_⟩ eg3 (hn.sameBut hs' (Ne.symm hTo.1))
    · rw [eg1]; exact DictOf_at hD.1 fun o e => hs'.extBut _ o (Ne.symm hTo.2.1) e
    · rcases hg'1 x hx with ⟨h1, h2⟩ | rfl
      · obtain ⟨vs, k1, k2⟩ := hD.2 x h1
        exact ⟨vs, k1.at (fun o e => hs'.extBut x.2.1 o h2 e), k2⟩
      · exact ⟨vl ++ [.int (nm bv.toNat) ub], by simpa using hl', hvl.append (.cons _ _ .nil)⟩
    · rw [eg2]; exact G.keys
    · rcases hg'1 x hx with ⟨h1, _⟩ | rfl
      · exact G.nodup x h1
      · rw [List.nodup_append]
        refine ⟨G.nodup _ hxm, by simp, fun u hu v hv e => ?_⟩
        rw [List.mem_singleton] at hv
        subst hv; subst e; exact hm hu
    · rcases hg'1 x hx with ⟨h1, _⟩ | rfl
      · exact G.sub x h1 v hv
      · rcases List.mem_append.mp hv with hv | hv
        · exact G.sub _ hxm v hv
        · rw [List.mem_singleton.mp hv]; exact nm_mem hbl
set_option maxHeartbeats 2000000 in
theorem graph_body {L a : Addr} {cd : Value} {m : Str → Option Value} {N D : Addr} {sz : Nat} {nv : Int} {ts tn : Tok} {g : List (Int × Addr × List Int)} {vsN : List Value} {Q : Flow → Shared → Prop}
    (h2 : 2 ≤ sz) (h6 : sz ≤ 6) (hh : A.handled = none)
    (hn : s.heap.Ns L m) (hms : m "size" = some (.int sz ts)) (hmN : m "names" = some (.ref N)) (hmD : m "after" = some (.ref D)) (hmn : m "n" = some (.int nv tn))
    (hN : s.heap.IsList N vsN.toArray) (hNi : IntsAre vsN (nms sz)) (hNL : N ≠ L) (hD : LDict prog w s.heap D g) (hDL : D ≠ L) (G : GG sz g) (hap : (g.map (·.2.1)).Nodup)
    (hoff : ∀ x ∈ g, x.2.1 ≠ L ∧ x.2.1 ≠ D ∧ x.2.1 ≠ N)
    (h : ∀ h' tok m' g', Fm (L :: g.map (·.2.1)) s.heap h' → LDict prog w h' D g' → GG sz g' → g'.map (·.2.1) = g.map (·.2.1) → h'.Ns L m' → (∀ x : Str, x ≠ "a" → x ≠ "b" → m' x = m x) → Q .next { s with heap := h', toks := tok }) :
    wpAny (model prog w) A (execs graphBody (envOf graphD.name graphD.scope L a cd)) Q E s := by
  have hsz0 : (sz : Int) ≠ 0 := by omega
  have hsz1 : (sz : Int) - 1 ≠ 0 := by omega
  refine wpAny_execs_cons (wpAny_Assign_Name (wpAny_BinOp (nm_loc hn hmn (nm_loc hn hms (PyProof.Rows.mod_int' hsz0 ?_)))))
  refine st_loc (env := envOf graphD.name graphD.scope L a cd) hn (fun h₁ hn₁ hs₁ => ?_)
  have ha : ∃ av, nv.fmod sz = av ∧ 0 ≤ av ∧ av < sz := by
    refine ⟨_, rfl, ?_, ?_⟩
    · rw [Int.fmod_eq_emod_of_nonneg _ (by omega)]; exact Int.emod_nonneg _ hsz0
    · rw [Int.fmod_eq_emod_of_nonneg _ (by omega)]; exact Int.emod_lt_of_pos _ (by omega)
  obtain ⟨av, ea, ha0, ha1⟩ := ha
  rw [ea] at hn₁
  have m1 : ∀ (x : Str) (v : Value), x ≠ "a" → m x = some v → upd m "a" (.int av s.toks) x = some v := fun x v hx e => by rw [upd_ne hx]; exact e
  refine wpAny_execs_cons (wpAny_Assign_Name (wpAny_BinOp (wpAny_BinOp (wpAny_BinOp (nm_loc hn₁ upd_same (wpAny_Constant_int (wpAny_add_int ?_)))))))
  refine wpAny_BinOp (wpAny_BinOp (nm_loc hn₁ (m1 _ _ (by decide) hmn) (nm_loc hn₁ (m1 _ _ (by decide) hms) (PyProof.Rows.floordiv_int hsz0 ?_ (Or.inl (PyProof.noPylong_small (by omega)))))))
  refine wpAny_BinOp (nm_loc hn₁ (m1 _ _ (by decide) hms) (wpAny_Constant_int (PyProof.Rows.sub_int ?_)))
  refine PyProof.Rows.mod_int' hsz1 ?_
  refine wpAny_add_int ?_
  refine nm_loc hn₁ (m1 _ _ (by decide) hms) (PyProof.Rows.mod_int' hsz0 ?_)
  have hb : ∃ bv, (av + 1 + (nv.fdiv sz).fmod (sz - 1)).fmod sz = bv ∧ 0 ≤ bv ∧ bv < sz := by
    refine ⟨_, rfl, ?_, ?_⟩
    · rw [Int.fmod_eq_emod_of_nonneg _ (by omega)]; exact Int.emod_nonneg _ hsz0
    · rw [Int.fmod_eq_emod_of_nonneg _ (by omega)]; exact Int.emod_lt_of_pos _ (by omega)
  obtain ⟨bv, eb, hb0, hb1⟩ := hb
  rw [eb]
  dsimp only
  refine st_loc (env := envOf graphD.name graphD.scope L a cd) hn₁ (fun h₂ hn₂ hs₂ => ?_)
  replace hs₁ : Heap.SameBut L s.heap h₁ := hs₁
  replace hs₂ : Heap.SameBut L h₁ h₂ := hs₂
  have k₂ : Fm [L] s.heap h₂ := (Fm.same hs₁ (by simp)).trans (Fm.same hs₂ (by simp))
  have hN₂ : h₂.IsList N vsN.toArray := hN.at fun o e => k₂ N o (by simpa using hNL) e
  have hD₂ : LDict prog w h₂ D g := ⟨DictOf_at hD.1 (fun o e => k₂ D o (by simpa using hDL) e), fun x hx => let ⟨vs, p1, p2⟩ := hD.2 x hx; ⟨vs, p1.at (fun o e => k₂ _ o (by simpa using (hoff x hx).1) e), p2⟩⟩
  generalize hm2 : upd (upd m "a" (.int av s.toks)) "b" _ = m₂ at hn₂
  have m2 : ∀ (x : Str), x ≠ "a" → x ≠ "b" → m₂ x = m x := fun x h1 h2 => by rw [← hm2, upd_ne h2, upd_ne h1]
  have m2a : m₂ "a" = some (.int av s.toks) := by rw [← hm2, upd_ne (by decide), upd_same]
  have m2b : ∃ tb, m₂ "b" = some (.int bv tb) := ⟨_, by rw [← hm2]; exact upd_same⟩
  obtain ⟨tb, m2b⟩ := m2b
  -- what is left, wherever a and b lie
  have tail : ∀ (h₃ : Heap) (tok : Nat) (m₃ : Str → Option Value) (a' b' : Int) (t1 t2 : Tok), Fm [L] s.heap h₃ → h₃.Ns L m₃ → (∀ (x : Str), x ≠ "a" → x ≠ "b" → m₃ x = m x) → m₃ "a" = some (.int a' t1) → m₃ "b" = some (.int b' t2) →
      0 ≤ a' → a' < sz → 0 ≤ b' → b' < sz → wpAny (model prog w) A (execs graphTail (envOf graphD.name graphD.scope L a cd)) Q E { s with heap := h₃, toks := tok } := by
    intro h₃ tok m₃ a' b' t1 t2 k₃ hn₃ hm₃ hma hmb q1 q2 q3 q4
    refine graph_tail (s := { s with heap := h₃, toks := tok }) h6 hn₃ (by rw [hm₃ _ (by decide) (by decide)]; exact hmN) (by rw [hm₃ _ (by decide) (by decide)]; exact hmD) hma hmb q1 q2 q3 q4
      (hN.at fun o e => k₃ N o (by simpa using hNL) e) hNi
      ⟨DictOf_at hD.1 (fun o e => k₃ D o (by simpa using hDL) e), fun x hx => let ⟨vs, p1, p2⟩ := hD.2 x hx; ⟨vs, p1.at (fun o e => k₃ _ o (by simpa using (hoff x hx).1) e), p2⟩⟩ G hap hoff
      (fun h' tok' g' p1 p2 p3 p4 p5 => h h' tok' m₃ g' ((k₃.mono (by simp)).trans (p1.mono fun b hb => List.mem_cons_of_mem _ hb)) p2 p3 p4 p5 hm₃)
  refine wpAny_execs_cons (wpAny_If (wpAny_isTrue_BoolOp (wpAny_allTrue_And_cons (wpAny_isTrue_Compare1 ?_))))
  refine wpAny_BinOp (wpAny_BinOp (nm_loc hn₂ (by rw [m2 _ (by decide) (by decide)]; exact hmn) (wpAny_Constant_int (PyProof.Rows.floordiv_int (by decide) ?_ (Or.inl (PyProof.noPylong_small (by decide)))))))
  refine wpAny_Constant_int (PyProof.Rows.mod_int' (by decide) ?_)
  refine wpAny_Constant_int (PyProof.Rows.ne_int (wpAny_truthy_bool ?_))
  have no : wpAny (model prog w) A (execs graphTail (envOf graphD.name graphD.scope L a cd)) Q E { s with heap := h₂, toks := s.toks } := tail h₂ s.toks m₂ av bv _ _ k₂ hn₂ m2 m2a m2b ha0 ha1 hb0 hb1
  by_cases hc : ((nv.fdiv 36).fmod 4 != 0) = true
  · rw [if_pos hc]
    refine wpAny_allTrue_And_cons (wpAny_isTrue_Compare1 ?_)
    refine nm_loc hn₂ m2b (nm_loc hn₂ m2a (PyProof.Rows.lt_int (wpAny_truthy_bool ?_)))
    by_cases hlt : bv < av
    · simp only [hlt, decide_true, if_true]
      refine wpAny_allTrue_And_nil ?_
      simp only [if_true]
      refine wpAny_execs_cons (Assign_Tuple_swapped (names := ["a", "b"]) ?_)
      refine wpAny_Tuple (wpAny_items_cons (nm_loc hn₂ m2b (wpAny_items_cons (nm_loc hn₂ m2a (wpAny_items_nil ⟨by rw [sizeLine_eq]; simp, ?_⟩)))))
      dsimp only
      have htup : IsTup (h₂.push { cls := .type "tuple", data := .seq [Value.int bv tb, Value.int av s.toks].toArray }) h₂.objs.size #[Value.int bv tb, Value.int av s.toks] := ⟨_, Heap.get?_push_size _ rfl, rfl, 0, rfl⟩
      have k₃ : ∀ b o, h₂.get? b = some o → (h₂.push { cls := .type "tuple", data := .seq [Value.int bv tb, Value.int av s.toks].toArray }).get? b = some o := fun b o e => Heap.get?_push_of_some _ e
      generalize (h₂.push { cls := .type "tuple", data := .seq [Value.int bv tb, Value.int av s.toks].toArray }) = h₃ at htup k₃ ⊢
      refine unpackItems_tuple (items := #[Value.int bv tb, Value.int av s.toks]) (by exact hh) htup (fun h₄ hx₄ => ?_)
      dsimp only
      have k₄ : ∀ b o, h₂.get? b = some o → h₄.get? b = some o := fun b o e => hx₄ b o (Nat.ne_of_lt (Heap.lt_size (k₃ b o e))) (k₃ b o e)
      have hn₄ := hn₂.keeps k₄
      show wpAny (model prog w) A (do holding _ (bindName _ ("b" : Str) (Value.int av s.toks)); (do holding _ (bindName _ ("a" : Str) (Value.int bv tb)); pure ())) _ _ _
      refine wpAny_bind (wpAny_holding (wpAny_bindName (st_loc (env := envOf graphD.name graphD.scope L a cd) hn₄ (fun h₅ hn₅ hs₅ => ?_))))
      refine wpAny_bind (wpAny_holding (wpAny_bindName (st_loc (env := envOf graphD.name graphD.scope L a cd) hn₅ (fun h₆ hn₆ hs₆ => ?_))))
      refine wpAny_pure ?_
      dsimp only
      refine wpAny_execs_nil ?_
      refine tail h₆ _ _ bv av tb s.toks (k₂.trans ((Fm.keep k₄).trans ((Fm.same (W := [L]) hs₅ (by simp [envOf])).trans (Fm.same hs₆ (by simp [envOf]))))) hn₆ (fun x q1 q2 => ?_) upd_same ?_ hb0 hb1 ha0 ha1
      · rw [upd_ne q1, upd_ne q2]; exact m2 x q1 q2
      · rw [upd_ne (by decide)]; exact upd_same
    · simp only [hlt, decide_false, Bool.false_eq_true, if_false]
      refine wpAny_execs_nil ?_
      exact tail h₂ _ m₂ av bv _ _ k₂ hn₂ m2 m2a m2b ha0 ha1 hb0 hb1
  · rw [if_neg hc]
    simp only [Bool.false_eq_true, if_false]
    refine wpAny_execs_nil ?_
    exact tail h₂ _ m₂ av bv _ _ k₂ hn₂ m2 m2a m2b ha0 ha1 hb0 hb1
end
end Mine
end

-- part C3
section
open PySem PySem.W PyProof.Rows PySem.Calls
set_option maxRecDepth 100000
namespace Mine
section
variable {prog : Program} {w : World} {A : Around} {E : Value → Shared → Prop} {s : Shared}

theorem range_small {sz : Nat} (h6 : sz ≤ 7) : Builtin.Range.small 0 (sz : Int) 1 = true ∧ Builtin.Range.rangeSize 0 (sz : Int) 1 = (sz : Int) := by
  have : sz = 0 ∨ sz = 1 ∨ sz = 2 ∨ sz = 3 ∨ sz = 4 ∨ sz = 5 ∨ sz = 6 ∨ sz = 7 := by omega
  rcases this with rfl | rfl | rfl | rfl | rfl | rfl | rfl | rfl <;> decide

theorem ints_of_paired {vs ys : List Value} {n : Nat} {f : Nat → Int} (hl : vs.length = n) (hP : ∀ (j : Nat) (v : Value), vs[j]? = some v → ∃ t, v = .int (j : Int) t)
    (hF : Paired (fun v y => ∀ (k : Nat) t, v = .int (k : Int) t → ∃ u, y = .int (f k) u) vs ys) : IntsAre ys ((List.range n).map f) := by
  have key : ∀ (vs ys : List Value) (i : Nat), (∀ (j : Nat) (v : Value), vs[j]? = some v → ∃ t, v = .int ((i + j : Nat) : Int) t) →
      Paired (fun v y => ∀ (k : Nat) t, v = .int (k : Int) t → ∃ u, y = .int (f k) u) vs ys → IntsAre ys ((List.range' i vs.length).map f) := by
    intro vs
    induction vs with
    | nil => intro ys i _ hp; cases hp; exact .nil
    | cons v r ih =>
      intro ys i hP hp
      cases hp with
      | cons h1 h2 =>
        obtain ⟨t, e⟩ := hP 0 v rfl
        obtain ⟨u, e'⟩ := h1 _ t e
        subst e'
        rw [List.length_cons, List.range'_succ, List.map_cons]
        refine .cons _ _ (ih _ (i + 1) (fun j v hv => ?_) h2)
        obtain ⟨t', e2⟩ := hP (j + 1) v (by simpa using hv)
        exact ⟨t', by rw [e2, show i + (j + 1) = i + 1 + j by omega]⟩
  have := key vs ys 0 (fun j v hv => by simpa using hP j v hv) hF
  rw [hl] at this
  rw [List.range_eq_range']; exact this

set_option maxHeartbeats 2000000 in
theorem graph_names {L a : Addr} {cd : Value} {m mg mb : Str → Option Value} {sz : Nat} {ts : Tok} {Q : Flow → Shared → Prop}
    (h2 : 2 ≤ sz) (h6 : sz ≤ 6) (hh : A.handled = none) (Gb : Gl mg mb s.heap) (hmr : mg "range" = none) (hn : s.heap.Ns L m) (hms : m "size" = some (.int sz ts))
    (h : ∀ h' tok N vs, (∀ b o, b ≠ L → s.heap.get? b = some o → h'.get? b = some o) → s.heap.get? N = none → h'.IsList N (List.toArray vs) → IntsAre vs (nms sz) → h'.Ns L (upd m "names" (.ref N)) →
      wpAny (model prog w) A (execs graphD.body.tail (envOf graphD.name graphD.scope L a cd)) Q E { s with heap := h', toks := tok }) :
    wpAny (model prog w) A (execs graphD.body (envOf graphD.name graphD.scope L a cd)) Q E s := by
  obtain ⟨r1, r2⟩ := range_small (sz := sz) (by omega)
  refine wpAny_execs_cons ?_
  refine wpAny_Assign_ListComp_walk (fun _ => true) (fun v y => ∀ (k : Nat) t, v = .int (k : Int) t → ∃ u, y = .int (nm k) u) (by rfl) (by decide) (by decide) (by rfl) (by decide) (by rfl) (by rfl) (by rfl) ?_
  refine Call_ (nm_built Gb hmr (by rfl) ?_)
  refine PyProof.Rows.callWith_type1 (PyProof.Rows.args_cons (nm_loc hn hms (PyProof.Rows.args_nil ?_)))
  refine call_range_1 ?_
  refine wpAny_pyIter_range (Heap.get?_push_size _ rfl) r1 ?_
  rw [r2]
  dsimp only
  have hr₁ : ∀ b o, s.heap.get? b = some o → ((s.heap.push { cls := .type "range", data := .fields #[.int 0 s.toks, .int sz ts, .int 1 (s.toks + 1)] }).push { cls := .type "range_iterator", data := .fields #[rawInt 0, rawInt sz, rawInt 1] }).get? b = some o :=
    fun b o e => Heap.get?_push_of_some _ (Heap.get?_push_of_some _ e)
  have hit : IsRangeIter ((s.heap.push { cls := .type "range", data := .fields #[.int 0 s.toks, .int sz ts, .int 1 (s.toks + 1)] }).push { cls := .type "range_iterator", data := .fields #[rawInt 0, rawInt sz, rawInt 1] })
      (s.heap.push { cls := .type "range", data := .fields #[.int 0 s.toks, .int sz ts, .int 1 (s.toks + 1)] }).objs.size 0 sz 1 := Heap.get?_push_size _ rfl
  have hIn : s.heap.get? (s.heap.push { cls := .type "range", data := .fields #[.int 0 s.toks, .int sz ts, .int 1 (s.toks + 1)] }).objs.size = none := Heap.get?_none_of_le (by rw [Heap.size_push]; exact Nat.le_succ _)
  generalize (s.heap.push { cls := .type "range", data := .fields #[.int 0 s.toks, .int sz ts, .int 1 (s.toks + 1)] }).objs.size = I at hit hIn ⊢
  generalize ((s.heap.push { cls := .type "range", data := .fields #[.int 0 s.toks, .int sz ts, .int 1 (s.toks + 1)] }).push { cls := .type "range_iterator", data := .fields #[rawInt 0, rawInt sz, rawInt 1] }) = h₁ at hr₁ hit ⊢
  have hLI : L ≠ I := ne_of_get' (Ns_live hn) hIn
  refine ⟨I, _, _, _, _, _, m, rfl, Walks.range (by exact hh) I 0 1 sz, by rw [sizeLine_eq]; omega, by simpa using hit, ?_, ?_, hn.keeps hr₁, ⟨?_, ?_⟩, ?_⟩
  · intro b hb; rw [List.mem_singleton.mp hb]; exact Heap.lt_size hit
  · simpa [envOf] using hLI
  · intro C i v s₃ m₃ E' _ _ _ _ _
    exact wpAny_pure ⟨rfl, s₃.heap, s₃.toks, rfl, fun _ _ e => e⟩
  · rintro C i v s₃ m₃ E' ⟨t, rfl⟩ _ hn₃ hm₃ _ _
    refine wpAny_BinOp (wpAny_BinOp (wpAny_BinOp (wpAny_Constant_int (nm_loc hn₃ hm₃ (PyProof.Rows.mul_int ?_ (IntMulOk.of_left (by decide)))))))
    refine wpAny_Constant_int (wpAny_add_int (wpAny_Constant_int (PyProof.Rows.mod_int' (by decide) ?_)))
    refine ⟨fun k t' e => ?_, s₃.heap, _, rfl, fun _ _ e => e⟩
    injection e with e1 e2
    rw [Int.fmod_eq_emod_of_nonneg _ (by decide), e1]
    exact ⟨_, rfl⟩
  · intro D h' tk ys vs hDn hl hpl hlen hP hF hn' hk'
    refine h h' tk D ys.toList (fun b o hb e => hk' b o (by simpa [envOf] using hb) (fun q => ?_) (hr₁ b o e)) ?_ (by simpa using hl) ?_ hn'
    · rw [List.mem_singleton.mp q, hIn] at e; cases e
    · cases q : s.heap.get? D with
      | none => rfl
      | some o => rw [hr₁ _ _ q] at hDn; cases hDn
    · rw [List.filter_eq_self.mpr (fun _ _ => rfl)] at hF
      exact ints_of_paired hlen (fun j v hv => by obtain ⟨t, e⟩ := hP j v hv; exact ⟨t, by rw [e]; simp⟩) hF
end
end Mine
end

-- part C4
section
open PySem PySem.W PyProof.Rows PySem.Calls
set_option maxRecDepth 100000
namespace Mine
section
variable {prog : Program} {w : World} {A : Around} {E : Value → Shared → Prop} {s : Shared}

theorem nms_nodup {sz : Nat} (h : sz ≤ 6) : (nms sz).Nodup := by
  have : sz = 0 ∨ sz = 1 ∨ sz = 2 ∨ sz = 3 ∨ sz = 4 ∨ sz = 5 ∨ sz = 6 := by omega
  rcases this with rfl | rfl | rfl | rfl | rfl | rfl | rfl <;> decide

set_option maxHeartbeats 2000000 in
theorem graph_after {L a : Addr} {cd : Value} {m : Str → Option Value} {sz : Nat} {N : Addr} {vs : List Value} {Q : Flow → Shared → Prop}
    (h6 : sz ≤ 6) (hh : A.handled = none) (hn : s.heap.Ns L m) (hmN : m "names" = some (.ref N)) (hN : s.heap.IsList N vs.toArray) (hNi : IntsAre vs (nms sz)) (hNL : N ≠ L)
    (h : ∀ h' tok D g, (∀ b o, b ≠ L → s.heap.get? b = some o → h'.get? b = some o) → s.heap.get? D = none → L < D → LDict prog w h' D g → GG sz g → (g.map (·.2.1)).Nodup → (∀ x ∈ g, x.2.1 ≠ D ∧ s.heap.get? x.2.1 = none) →
      h'.Ns L (upd m "after" (.ref D)) → wpAny (model prog w) A (execs graphD.body.tail.tail (envOf graphD.name graphD.scope L a cd)) Q E { s with heap := h', toks := tok }) :
    wpAny (model prog w) A (execs graphD.body.tail (envOf graphD.name graphD.scope L a cd)) Q E s := by
  refine wpAny_execs_cons ?_
  refine Assign_DictComp_J (cl := []) rfl (by rfl) (by rfl) (by decide) (by rfl) (by decide) ?_
  refine nm_loc hn hmN (iter_list hN fun I h₀ hIn hk₀ hit => ?_)
  intro D C h₁ tk hDn hCn hDC hk₁ hD₁ hC₁ hDz
  dsimp only at hDn hCn hk₁ ⊢
  have hs₁ : ∀ b o, s.heap.get? b = some o → h₁.get? b = some o := fun b o e => hk₁ b o (hk₀ b o e)
  have hDle : L < D := by
    obtain ⟨o, e⟩ := Ns_live hn
    exact Nat.lt_of_lt_of_le (Heap.lt_size (hk₀ _ _ e)) hDz
  have hNI : N ≠ I := ne_of_get' (IsList_live hN) hIn
  have hID : I ≠ D := ne_of_get' (let ⟨o, e, _⟩ := hit; ⟨o, e⟩) hDn
  have hIC : I ≠ C := ne_of_get' (let ⟨o, e, _⟩ := hit; ⟨o, e⟩) hCn
  have hLI : L ≠ I := ne_of_get' (Ns_live hn) hIn
  have hLD : L ≠ D := ne_of_get' (Ns_live (hn.keeps hk₀)) hDn
  have hLC : L ≠ C := ne_of_get' (Ns_live (hn.keeps hk₀)) hCn
  have hDs : s.heap.get? D = none := by
    cases q : s.heap.get? D with
    | none => rfl
    | some o => rw [hk₀ _ _ q] at hDn; cases hDn
  have hCs : s.heap.get? C = none := by
    cases q : s.heap.get? C with
    | none => rfl
    | some o => rw [hk₀ _ _ q] at hCn; cases hCn
  have hND : N ≠ D := ne_of_get' (IsList_live hN) hDs
  have hNC : N ≠ C := ne_of_get' (IsList_live hN) hCs
  have hlen : vs.toArray.size = sz := by rw [List.size_toArray, hNi.length, nms_len]
  refine compLoop_dict (tgt := .Name "name" ⟨27, 26, 27, 30⟩) (Walks.list (by exact hh) I N hNI vs.toArray)
    (fun i s' => (∃ tk, s' = { s with heap := s'.heap, toks := tk }) ∧ (∃ mc, s'.heap.Ns C mc) ∧ Fm [D, C, I] h₁ s'.heap ∧ ∃ g, LDict prog w s'.heap D g ∧ g.map (·.1) = (nms sz).take i ∧ (∀ x ∈ g, x.2.2 = []) ∧ (g.map (·.2.1)).Nodup ∧
      ∀ x ∈ g, x.2.1 ∉ [D, C, I, L] ∧ s.heap.get? x.2.1 = none) ?_ ?_ (fun _ => rfl) ?_ ?_
  · exact ⟨let ⟨o, e, r⟩ := hit; ⟨o, hk₁ _ _ e, r⟩, hN.at fun o e => hs₁ _ o e⟩
  · refine ⟨⟨_, rfl⟩, ⟨_, hC₁⟩, Fm.refl, [], ⟨⟨_, #[], 0, hD₁, ⟨rfl, rfl, rfl⟩, rfl, fun _ he => by simp at he, .nil, .nil⟩, fun _ hx => (nomatch hx)⟩, rfl, fun _ hx => (nomatch hx), .nil, fun _ hx => (nomatch hx)⟩
  · rintro i v s' h' tk' hi hv ⟨⟨tk₀, e0⟩, ⟨mc, hmc⟩, hf, g, g1, g2, g3, g4, g5⟩ ⟨hst1, hst2⟩ hw
    have hi' : i < sz := by rw [← hlen]; exact hi
    obtain ⟨tv, ev⟩ := hNi.get i (nm i) (nms_get hi')
    have hve : v = .int (nm i) tv := by
      have hv2 : vs[i]? = some v := by simpa using hv
      rw [ev] at hv2; exact (Option.some.inj hv2).symm
    subst hve
    have hsk : ∀ b o, s.heap.get? b = some o → s'.heap.get? b = some o := fun b o e => hf b o (fun q => by
      simp only [List.mem_cons, List.not_mem_nil, or_false] at q
      rcases q with q | q | q
      · rw [q, hDs] at e; cases e
      · rw [q, hCs] at e; cases e
      · rw [q, hIn] at e; cases e) (hs₁ b o e)
    have hsk' : ∀ b o, s.heap.get? b = some o → h'.get? b = some o := fun b o e => hw b o (fun q => by rw [List.mem_singleton.mp q, hIn] at e; cases e) (hsk b o e)
    have hD' : ∃ o, h'.get? D = some o := let ⟨o, e⟩ := DictOf_live g1.1; ⟨o, hw D o (by simpa using Ne.symm hID) e⟩
    have hn' : h'.Ns C mc := hmc.at' fun o e => hw C o (by simpa using Ne.symm hIC) e
    refine wpAny_assign_Name (wpAny_storeName_local (by rfl) (show h'.Ns C mc from hn') (fun h₂ hn₂ hs₂ => ?_) (by rfl))
    replace hn₂ : h₂.Ns C (upd mc "name" (.int (nm i) tv)) := hn₂
    replace hs₂ : Heap.SameBut C h' h₂ := hs₂
    refine tests_nil ?_
    simp only [if_true]
    unfold bodyDict
    refine wpAny_bind (nm_loc hn₂ upd_same ?_)
    refine wpAny_bind (wpAny_holding (wpAny_List (wpAny_items_nil ⟨Nat.zero_le _, ?_⟩)))
    dsimp only
    have hTn : h₂.get? h₂.objs.size = none := get_size h₂
    have hTp : (h₂.push { cls := .type "list", data := .seq ([] : List Value).toArray }).PlainList h₂.objs.size ([] : List Value).toArray := ⟨0, Heap.get?_push_size _ rfl⟩
    have k₃ : ∀ b o, h₂.get? b = some o → (h₂.push { cls := .type "list", data := .seq ([] : List Value).toArray }).get? b = some o := fun b o e => Heap.get?_push_of_some _ e
    generalize (h₂.push { cls := .type "list", data := .seq ([] : List Value).toArray }) = h₃ at hTp k₃ ⊢
    generalize h₂.objs.size = T at hTn hTp ⊢
    refine wpAny_bind (wpAny_standAt (wpAny_holding ?_))
    have hk₂ : Fm [D, C, I] s'.heap h₃ := fun b o hb e => by
      simp only [List.mem_cons, List.not_mem_nil, or_false, not_or] at hb
      exact k₃ b o (hs₂.extBut b o hb.2.1 (hw b o (by simpa using hb.2.2) e))
    have hD₃ : h₃.DictOf (intKind prog w) D (g.map fun x => (x.1, Value.ref x.2.1)) := DictOf_at g1.1 fun o e => k₃ _ o (hs₂.extBut _ o hDC (hw _ o (by simpa using Ne.symm hID) e))
    have hs₂k : ∀ b o, s.heap.get? b = some o → h₂.get? b = some o := fun b o e => hs₂.extBut b o (fun q => by rw [q, hCs] at e; cases e) (hsk' b o e)
    have hTD : T ≠ D := fun q => by obtain ⟨o, e⟩ := hD'; rw [← q] at e; exact absurd (hs₂.extBut T o (q ▸ hDC) e) (by rw [hTn]; nofun)
    have hTC : T ≠ C := fun q => by obtain ⟨o, e⟩ := Ns_live hn₂; rw [← q, hTn] at e; cases e
    have hTI : T ≠ I := fun q => by
      obtain ⟨o, e, _⟩ := hst1
      have e' := hs₂.extBut I o hIC e
      rw [← q, hTn] at e'; cases e'
    have hTL : T ≠ L := fun q => by
      obtain ⟨o, e⟩ := Ns_live hn
      have e' := hs₂k _ _ e
      rw [← q, hTn] at e'; cases e'
    have hTs : s.heap.get? T = none := by
      cases q : s.heap.get? T with
      | none => rfl
      | some o => rw [hs₂k _ _ q] at hTn; cases hTn
    have hknew : nm i ∉ g.map (·.1) := by
      rw [g2]
      intro q
      have hnd := nms_nodup h6
      rw [← List.take_append_drop i (nms sz), List.nodup_append] at hnd
      have hdr : nm i ∈ (nms sz).drop i := by
        rw [List.drop_eq_getElem_cons (by rw [nms_len]; exact hi')]
        have : (nms sz)[i]'(by rw [nms_len]; exact hi') = nm i := by
          have := nms_get hi'
          rw [List.getElem?_eq_getElem (by rw [nms_len]; exact hi')] at this
          exact Option.some.inj this
        rw [this]; exact List.mem_cons_self
      exact hnd.2.2 _ q _ hdr rfl
    refine wpAny_dictSet_pairs (intKind_is prog w (nm i) tv) hD₃ (fun h₄ hd₄ hs₄ => ?_) (by
      have : g.length = ((nms sz).take i).length := by rw [← g2, List.length_map]
      rw [List.length_map, this, List.length_take, nms_len, sizeLine_eq]; omega)
    rw [show stored (g.map fun x => (x.1, Value.ref x.2.1)) (nm i) (.ref T) = (rput g (nm i) (T, [])).map fun x => (x.1, Value.ref x.2.1) from stored_map (fun x : Addr × List Int => Value.ref x.1) g (nm i) (T, []), rput_new hknew] at hd₄
    have hIo := hst1
    refine ⟨⟨?_, ?_⟩, ⟨_, by rw [e0]⟩, ⟨_, hn₂.at' fun o e => hs₄.extBut _ o (Ne.symm hDC) (k₃ _ o e)⟩, fun b o hb e => ?_, g ++ [(nm i, T, [])], ⟨hd₄, fun x hx => ?_⟩, ?_, fun x hx => ?_, ?_, fun x hx => ?_⟩
    · obtain ⟨o, e, r⟩ := hst1
      exact ⟨o, hs₄.extBut _ o hID (k₃ _ o (hs₂.extBut _ o hIC e)), r⟩
    · exact hst2.at fun o e => hs₄.extBut _ o hND (k₃ _ o (hs₂.extBut _ o hNC e))
    · have hb' := hb
      simp only [List.mem_cons, List.not_mem_nil, or_false, not_or] at hb'
      exact hs₄.extBut b o hb'.1 (hk₂ b o hb (hf b o hb e))
    · rcases List.mem_append.mp hx with hx | hx
      · obtain ⟨us, p1, p2⟩ := g1.2 x hx
        have hxo := (g5 x hx).1
        simp only [List.mem_cons, List.not_mem_nil, or_false, not_or] at hxo
        exact ⟨us, p1.at (fun o e => hs₄.extBut x.2.1 o hxo.1 (hk₂ _ o (by simp [hxo]) e)), p2⟩
      · rw [List.mem_singleton.mp hx]
        exact ⟨[], hTp.at (fun o e => hs₄.extBut T o hTD e), .nil⟩
    · rw [List.map_append, g2, List.take_add_one, nms_get hi']; rfl
    · rcases List.mem_append.mp hx with hx | hx
      · exact g3 x hx
      · rw [List.mem_singleton.mp hx]
    · rw [List.map_append, List.nodup_append]
      refine ⟨g4, by simp, fun u hu v hv => ?_⟩
      obtain ⟨x, hx, rfl⟩ := List.mem_map.mp hu
      simp only [List.map_cons, List.map_nil, List.mem_singleton] at hv
      subst hv
      obtain ⟨us, ⟨n, p1⟩, p2⟩ := g1.2 x hx
      intro q
      have hxo := (g5 x hx).1
      simp only [List.mem_cons, List.not_mem_nil, or_false, not_or] at hxo
      have := hs₂.extBut x.2.1 _ hxo.2.1 (hw x.2.1 _ (by simpa using hxo.2.2.1) p1)
      rw [q, hTn] at this; cases this
    · rcases List.mem_append.mp hx with hx | hx
      · exact g5 x hx
      · rw [List.mem_singleton.mp hx]
        exact ⟨by simp [hTD, hTC, hTI, hTL], hTs⟩
  · rintro s' h' tk' ⟨⟨tk₀, e0⟩, ⟨mc, hmc⟩, hf, g, g1, g2, g3, g4, g5⟩ hw
    have hsk : ∀ b o, s.heap.get? b = some o → h'.get? b = some o := fun b o e => hw b o (fun q => by rw [List.mem_singleton.mp q, hIn] at e; cases e) (hf b o (fun q => by
      simp only [List.mem_cons, List.not_mem_nil, or_false] at q
      rcases q with q | q | q
      · rw [q, hDs] at e; cases e
      · rw [q, hCs] at e; cases e
      · rw [q, hIn] at e; cases e) (hs₁ b o e))
    refine post_loc (env := envOf graphD.name graphD.scope L a cd) (x := "after") (Q := fun _ s' => wpAny (model prog w) A (execs graphD.body.tail.tail (envOf graphD.name graphD.scope L a cd)) Q E s') (s := { s' with heap := h', toks := tk' }) (show h'.Ns L m from hn.keeps hsk) (hmc.at' fun o e => hw C o (by simpa using Ne.symm hIC) e) hLC (fun h₃ tok hn₃ hf₃ => ?_)
    dsimp only
    replace hf₃ : Fm [L, C] h' h₃ := hf₃
    rw [hlen, List.take_of_length_le (by rw [nms_len]; exact Nat.le_refl _)] at g2
    rw [e0]
    refine h h₃ tok D g (fun b o hb e => hf₃ b o (fun q => ?_) (hsk b o e)) hDs hDle ⟨DictOf_at g1.1 fun o e => hf₃ D o (by simp [Ne.symm hLD, hDC]) (hw D o (by simpa using Ne.symm hID) e), fun x hx => ?_⟩
      ⟨g2, fun x hx => by rw [g3 x hx]; exact .nil, fun x hx v hv => by rw [g3 x hx] at hv; cases hv⟩ g4 (fun x hx => ⟨fun q => (g5 x hx).1 (by simp [q]), (g5 x hx).2⟩) hn₃
    · simp only [List.mem_cons, List.not_mem_nil, or_false] at q
      rcases q with q | q
      · exact hb q
      · rw [q, hCs] at e; cases e
    · obtain ⟨us, p1, p2⟩ := g1.2 x hx
      have hxo := (g5 x hx).1
      simp only [List.mem_cons, List.not_mem_nil, or_false, not_or] at hxo
      exact ⟨us, p1.at (fun o e => hf₃ x.2.1 o (by simp [hxo]) (hw x.2.1 o (by simp [hxo]) e)), p2⟩
end
end Mine
end

-- part C5
section
open PySem PySem.W PyProof.Rows PySem.Calls
set_option maxRecDepth 100000
namespace Mine
section
variable {prog : Program} {w : World} {A : Around} {E : Value → Shared → Prop} {s : Shared}

set_option maxHeartbeats 2000000 in
theorem graph_spec {R : Result → Shared → Prop} {a r : Addr} {o : Obj} {pm cd doc : Value} {sz : Nat} {ts : Tok} {rs : List Value} {ns : List Int} {mg mb : Str → Option Value} (hh : A.handled = none) (hroom : A.depth < recursionLimit)
    (h2 : 2 ≤ sz) (h6 : sz ≤ 6)
    (ho : s.heap.get? a = some o) (hdata : o.data = .func (docDef graphD.name graphD.params graphD.body graphD.scope pm cd doc)) (G : Gl mg mb s.heap) (hcd : s.heap.CodeRec cd graphD.name)
    (hmr : mg "range" = none) (hr : s.heap.IsList r rs.toArray) (hri : IntsAre rs ns)
    (h : ∀ h' tok D g, (∀ b o, s.heap.get? b = some o → h'.get? b = some o) → s.heap.get? D = none → s.heap.objs.size < D → LDict prog w h' D g → GG sz g → (g.map (·.2.1)).Nodup → (∀ x ∈ g, x.2.1 ≠ D ∧ s.heap.get? x.2.1 = none) →
      R (.ok (.ret (.ref D))) { s with heap := h', toks := tok }) :
    codeAny (model prog w) A (.call (.ref a) ⟨[.int sz ts, .ref r], []⟩) R s := by
  refine call_plain_ret (binds := [("size", .int sz ts), ("rows", .ref r)]) hroom ho hdata G.nl hcd (by rfl) (by intro x hx; simp at hx; rcases hx with rfl | rfl <;> rfl) (fun h₁ F => ?_)
  have k₁ := F.keep
  have hn := F.ns
  generalize hL : s.heap.objs.size = L at hn ⊢
  have hLnew : s.heap.get? L = none := hL ▸ get_size s.heap
  generalize hm : (fun x : Str => List.lookup x (List.reverse [(("size" : Str), Value.int sz ts), (("rows" : Str), Value.ref r)])) = m at hn
  have hms : m "size" = some (.int sz ts) := by rw [← hm]; rfl
  have hmr' : m "rows" = some (.ref r) := by rw [← hm]; rfl
  have hrL : r ≠ L := ne_of_get' (IsList_live hr) hLnew
  have sx : ∀ {h' : Heap} {b : Addr}, (∀ b o, s.heap.get? b = some o → h'.get? b = some o) → h'.get? b = none → s.heap.get? b = none := fun {h' b} k e => by
    cases q : s.heap.get? b with
    | none => rfl
    | some o => rw [k _ _ q] at e; cases e
  refine graph_names h2 h6 hh (G.keeps k₁) hmr hn hms (fun h₂ tok₂ N vs f₂ hNn hN hNi hn₂ => ?_)
  dsimp only at f₂ hNn ⊢
  have k₂ : ∀ b o, s.heap.get? b = some o → h₂.get? b = some o := fun b o e => f₂ b o (fun q => by rw [q, hLnew] at e; cases e) (k₁ b o e)
  have hNs : s.heap.get? N = none := sx k₁ hNn
  have hNL : N ≠ L := fun q => by obtain ⟨o, e⟩ := Ns_live hn; rw [← q, hNn] at e; cases e
  refine graph_after (s := { s with heap := h₂, toks := tok₂ }) h6 hh hn₂ upd_same hN hNi hNL (fun h₃ tok₃ D g f₃ hDn hLD hD GGg hap hoff hn₃ => ?_)
  dsimp only at f₃ hDn hoff ⊢
  have k₃ : ∀ b o, s.heap.get? b = some o → h₃.get? b = some o := fun b o e => f₃ b o (fun q => by rw [q, hLnew] at e; cases e) (k₂ b o e)
  have hDs : s.heap.get? D = none := sx k₂ hDn
  have hDL : D ≠ L := fun q => by obtain ⟨o, e⟩ := Ns_live hn₂; rw [← q, hDn] at e; cases e
  have hDN : D ≠ N := fun q => by obtain ⟨o, e⟩ := IsList_live hN; rw [← q, hDn] at e; cases e
  have hN₃ : h₃.IsList N vs.toArray := hN.at fun o e => f₃ N o hNL e
  have hoffL : ∀ x ∈ g, x.2.1 ≠ L ∧ x.2.1 ≠ D ∧ x.2.1 ≠ N ∧ s.heap.get? x.2.1 = none := fun x hx =>
    ⟨Ne.symm (ne_of_get' (Ns_live hn₂) (hoff x hx).2), (hoff x hx).1, Ne.symm (ne_of_get' (IsList_live hN) (hoff x hx).2), sx k₂ (hoff x hx).2⟩
  refine wpAny_execs_cons (For_J (by rfl) (by rfl) ?_)
  refine nm_loc hn₃ (show upd (upd m "names" (.ref N)) "after" (.ref D) "rows" = some (.ref r) by rw [upd_ne (by decide), upd_ne (by decide)]; exact hmr') ?_
  have hr₃ : h₃.IsList r rs.toArray := hr.at fun o e => k₃ r o e
  refine wpAny_pyIter_list hr₃ ?_
  dsimp only
  generalize hIe : h₃.objs.size = I
  have hIn : h₃.get? I = none := hIe ▸ get_size h₃
  have hIs : s.heap.get? I = none := sx k₃ hIn
  have hIr : r ≠ I := ne_of_get' (IsList_live hr₃) hIn
  have hIL : L ≠ I := ne_of_get' (Ns_live hn₃) hIn
  have hIN : N ≠ I := ne_of_get' (IsList_live hN₃) hIn
  have hID : D ≠ I := ne_of_get' (DictOf_live hD.1) hIn
  have hIg : ∀ x ∈ g, x.2.1 ≠ I := fun x hx => ne_of_get' (IsList_live (hD.2 x hx).choose_spec.1.isList) hIn
  generalize hio : ({ cls := .type "list_iterator", data := .fields #[.ref r, .int 0 0] } : Obj) = io
  refine ⟨I, _, _, _, _, _, upd (upd m "names" (.ref N)) "after" (.ref D), fun i m' s' => m' "size" = some (.int sz ts) ∧ m' "names" = some (.ref N) ∧ m' "after" = some (.ref D) ∧ (∃ tk, s' = { s with heap := s'.heap, toks := tk }) ∧
      Fm (L :: I :: g.map (·.2.1)) h₃ s'.heap ∧ ∃ g', LDict prog w s'.heap D g' ∧ GG sz g' ∧ g'.map (·.2.1) = g.map (·.2.1),
    rfl, Walks.list (by exact hh) I r hIr rs.toArray, ?_, ?_, hn₃.push _, ?_, ?_, ?_, ?_⟩
  · simp only [List.mem_cons, List.not_mem_nil, or_false, not_or]; exact ⟨hIL, Ne.symm hrL⟩
  · exact ⟨⟨io, by rw [← hIe]; exact Heap.get?_push_size _ (by rw [← hio]; rfl), by rw [← hio]; exact ⟨rfl, rfl⟩⟩, hr₃.push _⟩
  · refine ⟨by rw [upd_ne (by decide), upd_ne (by decide)]; exact hms, by rw [upd_ne (by decide)]; exact upd_same, upd_same, ⟨_, rfl⟩, Fm.keep fun b o e => Heap.get?_push_of_some _ e, g, hD.keeps fun b o e => Heap.get?_push_of_some _ e, GGg, rfl⟩
  · rintro i m' s' h' tk ⟨j1, j2, j3, ⟨tk', j4⟩, j5, g', j6, j7, j8⟩ hf
    replace hf : Fm [L, I] s'.heap h' := hf
    have hrow : ∀ x ∈ g', x.2.1 ∉ [L, I] := fun x hx => by
      have : x.2.1 ∈ g.map (·.2.1) := j8 ▸ List.mem_map_of_mem hx
      obtain ⟨y, hy, e⟩ := List.mem_map.mp this
      rw [← e]
      simp [(hoffL y hy).1, hIg y hy]
    refine ⟨j1, j2, j3, ⟨tk, by rw [j4]⟩, j5.trans (hf.mono fun b hb => by simp only [List.mem_cons, List.not_mem_nil, or_false] at hb ⊢; rcases hb with q | q <;> simp [q]), g', ?_, j7, j8⟩
    exact ⟨DictOf_at j6.1 fun o e => hf D o (by simp [hDL, hID]) e, fun x hx => let ⟨us, p1, p2⟩ := j6.2 x hx; ⟨us, p1.at (fun o e => hf _ o (hrow x hx) e), p2⟩⟩
  · rintro i v m' s' hi hv ⟨j1, j2, j3, ⟨tk', j4⟩, j5, g', j6, j7, j8⟩ ⟨hst1, hst2⟩ hn'
    have hi' : i < rs.length := by simpa using hi
    obtain ⟨tv, ev⟩ := hri.get i (ns[i]'(by rw [← hri.length]; exact hi')) (by simp)
    have hve : v = .int (ns[i]'(by rw [← hri.length]; exact hi')) tv := by
      have hv2 : rs[i]? = some v := by simpa using hv
      rw [ev] at hv2; exact (Option.some.inj hv2).symm
    subst hve
    have hrow : ∀ x ∈ g', ∃ y ∈ g, y.2.1 = x.2.1 := fun x hx => by
      have : x.2.1 ∈ g.map (·.2.1) := j8 ▸ List.mem_map_of_mem hx
      obtain ⟨y, hy, e⟩ := List.mem_map.mp this
      exact ⟨y, hy, e⟩
    have hoffN : N ∉ L :: I :: g.map (·.2.1) := by
      simp only [List.mem_cons, List.mem_map, not_or, not_exists, not_and]
      exact ⟨hNL, hIN, fun y hy q => (hoffL y hy).2.2.1 q⟩
    have hNow : s'.heap.IsList N vs.toArray := hN₃.at fun o e => j5 N o hoffN e
    refine wpAny_mono (graph_body (a := a) (cd := cd) (E := fun _ _ => False) (m := upd m' "n" (.int _ tv)) h2 h6 hh hn' (by rw [upd_ne (by decide)]; exact j1) (by rw [upd_ne (by decide)]; exact j2) (by rw [upd_ne (by decide)]; exact j3) upd_same hNow hNi hNL j6 hDL j7 (j8 ▸ hap)
      (fun x hx => let ⟨y, hy, e⟩ := hrow x hx; by rw [← e]; exact ⟨(hoffL y hy).1, (hoffL y hy).2.1, (hoffL y hy).2.2.1⟩)
      (Q := fun f s₃ => f = .next ∧ ∃ h' tok m'' g'', s₃ = { s' with heap := h', toks := tok } ∧ Fm (L :: g'.map (·.2.1)) s'.heap h' ∧ LDict prog w h' D g'' ∧ GG sz g'' ∧ g''.map (·.2.1) = g'.map (·.2.1) ∧ h'.Ns L m'' ∧ m'' "size" = some (.int sz ts) ∧ m'' "names" = some (.ref N) ∧ m'' "after" = some (.ref D))
      (fun h' tok m'' g'' a1 a2 a3 a4 a5 a6 => ⟨rfl, h', tok, m'', g'', rfl, a1, a2, a3, a4, a5, by rw [a6 _ (by decide) (by decide), upd_ne (by decide)]; exact j1, by rw [a6 _ (by decide) (by decide), upd_ne (by decide)]; exact j2, by rw [a6 _ (by decide) (by decide), upd_ne (by decide)]; exact j3⟩)) ?_ fun _ _ e => e
    rintro f s₃ ⟨rfl, h', tok, m'', g'', rfl, a1, a2, a3, a4, a5, a6, a7, a8⟩
    refine ⟨m'', a5, fun b hb o e => a1 b o (fun q => ?_) e, a6, a7, a8, ⟨tok, by rw [j4]⟩, j5.trans (a1.mono fun b hb => ?_), g'', a2, a3, a4.trans j8⟩
    · rw [j8] at q
      simp only [List.mem_cons, List.not_mem_nil, or_false, List.mem_map] at q hb
      rcases hb with hb | hb <;> rcases q with q | ⟨y, hy, q⟩
      · exact hIL (q.symm.trans hb)
      · exact hIg y hy (q.trans hb)
      · exact hrL (hb.symm.trans q)
      · obtain ⟨o, e⟩ := IsList_live hr
        rw [← hb, ← q, (hoffL y hy).2.2.2] at e; cases e
    · rw [j8] at hb
      simp only [List.mem_cons] at hb ⊢
      rcases hb with q | q
      · exact .inl q
      · exact .inr (.inr q)
  · rintro m' s' ⟨j1, j2, j3, ⟨tk', j4⟩, j5, g', j6, j7, j8⟩ hn'
    refine wpAny_execs_cons (wpAny_Return_some (nm_loc hn' j3 ?_))
    show R (.ok (.ret (.ref D))) s'
    rw [j4]
    refine h _ _ D g' (fun b o e => j5 b o (fun q => ?_) (k₃ b o e)) hDs (hL ▸ hLD) j6 j7 (j8 ▸ hap) fun x hx => ?_
    · simp only [List.mem_cons, List.mem_map] at q
      rcases q with q | q | ⟨y, hy, q⟩
      · rw [q, hLnew] at e; cases e
      · rw [q, hIs] at e; cases e
      · rw [← q, (hoffL y hy).2.2.2] at e; cases e
    · have : x.2.1 ∈ g.map (·.2.1) := j8 ▸ List.mem_map_of_mem hx
      obtain ⟨y, hy, e⟩ := List.mem_map.mp this
      rw [← e]; exact ⟨(hoffL y hy).2.1, (hoffL y hy).2.2.2⟩
end
end Mine
end

-- part D1
section
open PySem PySem.W PyProof.Rows PySem.Calls
set_option maxRecDepth 100000
namespace Mine

structure WalkH (prog : Program) (w : World) (A : Around) (I : Addr) (fp wr : List Addr) (G : Array GenState → Array GenState → Prop) (n : Nat) (P : Nat → Value → Heap → Heap → Prop) (St : Nat → Shared → Prop) : Prop where
  sub : ∀ b ∈ wr, b ∈ fp
  frame : ∀ i (s : Shared) h' tk, St i s → s.toks ≤ tk → (∀ b ∈ fp, ∀ o, s.heap.get? b = some o → h'.get? b = some o) → St i { s with heap := h', toks := tk }
  item : ∀ i (s : Shared) (Q : Option Value → Shared → Prop) (E : Value → Shared → Prop), i < n → St i s →
    (∀ v s', P i v s.heap s'.heap → St (i + 1) s' → Moved wr G s s' → Q (some v) s') → wpAny (model prog w) A (pyNext (.ref I)) Q E s
  done : ∀ (s : Shared) (Q : Option Value → Shared → Prop) (E : Value → Shared → Prop), St n s → (∀ s', Moved wr G s s' → Q none s') → wpAny (model prog w) A (pyNext (.ref I)) Q E s

theorem WalkH.of_in1 {prog : Program} {w : World} {A : Around} {I : Addr} {fp wr : List Addr} {G : Array GenState → Array GenState → Prop} {n : Nat} {P : Nat → Value → Heap → Heap → Prop} {St : Nat → Shared → Prop}
    (W : WalkH prog w A.in1 I fp wr G n P St) : WalkH prog w A I fp wr G n P St :=
  ⟨W.sub, W.frame, fun i s Q E hi st hQ => wpAny_of_in1 (W.item i s Q E hi st hQ), fun s Q E st hQ => wpAny_of_in1 (W.done s Q E st hQ)⟩

theorem WalkH.ofS {prog : Program} {w : World} {A : Around} {I : Addr} {fp wr : List Addr} {G : Array GenState → Array GenState → Prop} {n : Nat} {P : Nat → Value → Prop} {St : Nat → Shared → Prop}
    (W : WalksS prog w A I fp wr G n P St) : WalkH prog w A I fp wr G n (fun i v _ _ => P i v) St :=
  ⟨W.sub, W.frame, W.item, W.done⟩

section
variable {prog : Program} {w : World} {A : Around} {R : Result → Shared → Prop} {I : Addr} {fp wr : List Addr} {G : Array GenState → Array GenState → Prop} {n : Nat} {P : Nat → Value → Heap → Heap → Prop} {St : Nat → Shared → Prop}

theorem loop_set (W : WalkH prog w A.in1 I fp wr G n P St) {S : Addr} (hSf : S ∉ fp) (J : Nat → Shared → Prop)
    (hstep : ∀ i v s s', i < n → J i s → P i v s.heap s'.heap → Moved wr G s s' → ∃ k t ks, v = .int k t ∧ SetL w s'.heap S ks ∧ ks.length + 1 < 1000 ∧
      ∀ h', Heap.SameBut S s'.heap h' → SetL w h' S (if k ∈ ks then ks else k :: ks) → J (i + 1) { s' with heap := h', toks := s'.toks + 1 })
    (hfin : ∀ s s', J n s → Moved wr G s s' → R (.ok (.ret .none)) s') :
    ∀ (k i : Nat) (s : Shared), n - i = k → i ≤ n → St i s → J i s → codeAny (model prog w) A (.builtin "set.update.loop" ⟨[.ref S, .ref I], []⟩) R s := by
  intro k
  induction k with
  | zero =>
    intro i s hk hi hst hJ
    obtain rfl : i = n := by omega
    refine codeAny_builtin PyProof.Rows.F.entry_set_update_loop ?_
    rw [Around.under_plainId PyProof.Rows.F.plain_set_update_loop _]
    show wpAny _ A.in1 (pyNext (.ref I) >>= _) _ _ s
    refine wpAny_bind (W.done s _ _ hst fun s' hm => ?_)
    show wpAny _ A.in1 (ret Value.none) _ _ s'
    exact wpAny_pure (hfin _ _ hJ hm)
  | succ k ih =>
    intro i s hk hi hst hJ
    have hlt : i < n := by omega
    refine codeAny_builtin PyProof.Rows.F.entry_set_update_loop ?_
    rw [Around.under_plainId PyProof.Rows.F.plain_set_update_loop _]
    show wpAny _ A.in1 (pyNext (.ref I) >>= _) _ _ s
    refine wpAny_bind (W.item i s _ _ hlt hst fun v s' hP hst' hm => ?_)
    obtain ⟨x, t, ks, rfl, hS, hroom, hJ'⟩ := hstep i v s s' hlt hJ hP hm
    show wpAny _ A.in1 (holding [Value.int x t] (setAdd S (.int x t)) >>= _) _ _ s'
    refine wpAny_bind (wpAny_holding (setAdd_L hS hroom fun h' b hs' hS' => ?_))
    exact wpAny_pure ⟨plainId_quiet PyProof.Rows.F.plain_set_update_loop _, ih (i + 1) _ (by omega) hlt (W.frame _ s' _ _ hst' (Nat.le_succ _) fun b hb o e => hs'.extBut b o (fun q => hSf (q ▸ hb)) e) (hJ' h' hs' hS')⟩

theorem loop_any (W : WalkH prog w A.in1 I fp wr G n P St) (tr : Nat → Bool) (J : Nat → Shared → Prop)
    (hstep : ∀ i v s s', i < n → J i s → P i v s.heap s'.heap → Moved wr G s s' →
      wpAny (model prog w) A.in1 (truthy v) (fun b s'' => b = tr i ∧ ∃ tk, s'.toks ≤ tk ∧ s'' = { s' with toks := tk } ∧ J (i + 1) s'') (fun _ _ => False) s')
    (hyes : ∀ i s, i < n → tr i = true → J (i + 1) s → R (.ok (.ret (.bool true))) s)
    (hno : ∀ s s', (∀ i < n, tr i = false) → J n s → Moved wr G s s' → R (.ok (.ret (.bool false))) s') :
    ∀ (k i : Nat) (s : Shared), n - i = k → i ≤ n → (∀ j < i, tr j = false) → St i s → J i s → codeAny (model prog w) A (.builtin "any.loop" ⟨[.ref I], []⟩) R s := by
  intro k
  induction k with
  | zero =>
    intro i s hk hi hf hst hJ
    obtain rfl : i = n := by omega
    refine codeAny_builtin PySem.F.entry_any_loop ?_
    rw [Around.under_plainId PySem.F.plain_any_loop _]
    show wpAny _ A.in1 (pyNext (.ref I) >>= _) _ _ s
    refine wpAny_bind (W.done s _ _ hst fun s' hm => ?_)
    exact wpAny_bind (wpAny_rule (wpAny_pure (hno _ _ hf hJ hm)))
  | succ k ih =>
    intro i s hk hi hf hst hJ
    have hlt : i < n := by omega
    refine codeAny_builtin PySem.F.entry_any_loop ?_
    rw [Around.under_plainId PySem.F.plain_any_loop _]
    show wpAny _ A.in1 (pyNext (.ref I) >>= _) _ _ s
    refine wpAny_bind (W.item i s _ _ hlt hst fun v s' hP hst' hm => ?_)
    refine wpAny_bind (wpAny_holding (wpAny_mono (hstep i v s s' hlt hJ hP hm) (fun b s'' ⟨eb, tk, htk, es, hJ'⟩ => ?_) fun _ _ e => e.elim))
    subst eb
    refine wpAny_bind (wpAny_letGo ?_)
    cases hb : tr i with
    | false =>
      simp only [Bool.false_eq_true, if_false]
      refine wpAny_pure ⟨plainId_quiet PySem.F.plain_any_loop _, ih (i + 1) _ (by omega) hlt (fun j hj => ?_) (by rw [es]; exact W.frame _ s' _ _ hst' htk fun _ _ _ e => e) hJ'⟩
      rcases Nat.lt_or_ge j i with q | q
      · exact hf j q
      · have : j = i := by omega
        rw [this]; exact hb
    | true =>
      simp only [if_true]
      exact wpAny_bind (wpAny_rule (wpAny_pure (hyes i _ hlt hb hJ')))

theorem entry_dict_loop : entryFor table "dict.update.loop" = some Builtin.«dict.update.loop» := entryFor_of_tree (by kernel_rfl)
theorem plain_dict_loop : plainId "dict.update.loop" = true := by decide +kernel

theorem loop_dict (W : WalkH prog w A.in1 I fp wr G n P St) {d : Addr} (hdf : d ∉ fp) (J : Nat → Shared → Prop)
    (hstep : ∀ i v s s', i < n → J i s → P i v s.heap s'.heap → Moved wr G s s' → ∃ k t x kvs T, v = .ref T ∧ IsTup s'.heap T #[.int k t, x] ∧ s'.heap.DictOf (intKind prog w) d kvs ∧ kvs.length < sizeLine ∧
      ∀ h' tk, s'.toks ≤ tk → h'.DictOf (intKind prog w) d (stored kvs k x) → Heap.SameBut d s'.heap h' → J (i + 1) { s' with heap := h', toks := tk })
    (hfin : ∀ s s', J n s → Moved wr G s s' → R (.ok (.ret .none)) s') :
    ∀ (k i : Nat) (s : Shared), n - i = k → i ≤ n → St i s → J i s → codeAny (model prog w) A (.builtin "dict.update.loop" ⟨[.ref d, .ref I, rawInt i, .none], []⟩) R s := by
  intro k
  induction k with
  | zero =>
    intro i s hk hi hst hJ
    obtain rfl : i = n := by omega
    refine codeAny_builtin entry_dict_loop ?_
    rw [Around.under_plainId plain_dict_loop _]
    show wpAny _ A.in1 (pyNext (.ref I) >>= _) _ _ s
    refine wpAny_bind (W.done s _ _ hst fun s' hm => ?_)
    show wpAny _ A.in1 (Builtin.Dict.addKeywords d [] >>= _) _ _ s'
    exact wpAny_bind (wpAny_pure (wpAny_pure (hfin _ _ hJ hm)))
  | succ k ih =>
    intro i s hk hi hst hJ
    have hlt : i < n := by omega
    refine codeAny_builtin entry_dict_loop ?_
    rw [Around.under_plainId plain_dict_loop _]
    show wpAny _ A.in1 (pyNext (.ref I) >>= _) _ _ s
    refine wpAny_bind (W.item i s _ _ hlt hst fun v s' hP hst' hm => ?_)
    obtain ⟨x, t, y, kvs, T, rfl, hT, hd, hroom, hJ'⟩ := hstep i v s s' hlt hJ hP hm
    show wpAny _ A.in1 (holding [Value.ref T] ((Builtin.Dict.pairItems (.ref T)).tryCatch _ >>= _) >>= _) _ _ s'
    refine wpAny_bind (wpAny_holding (wpAny_bind (wpAny_tryCatch ?_)))
    unfold Builtin.Dict.pairItems
    obtain ⟨o, ho, hc, nt, hdat⟩ := id hT
    refine wpAny_bind (wpAny_typeOf (T := "tuple") ⟨o, ho, hc⟩ ?_)
    rw [if_pos (by decide)]
    refine wpAny_bind (wpAny_seqItems ho hdat ?_)
    refine wpAny_pure ?_
    show wpAny _ _ (holding [Value.int x t, y] (dictSet d (.int x t) y)) _ _ _
    refine wpAny_holding (wpAny_dictSet_pairs (intKind_is prog w x t) hd (fun h' hd' hs' => ?_) (Nat.le_of_lt hroom))
    have := ih (i + 1) { s' with heap := h', toks := s'.toks + 1 } (by omega) hlt (W.frame _ s' _ _ hst' (Nat.le_succ _) fun b hb o e => hs'.extBut b o (fun q => hdf (q ▸ hb)) e) (hJ' h' _ (Nat.le_succ _) hd' hs')
    exact wpAny_pure ⟨plainId_quiet plain_dict_loop _, this⟩
end
end Mine
end

-- part D2
section
open PySem PySem.W PyProof.Rows PySem.Calls
set_option maxRecDepth 100000
namespace Mine
namespace F
theorem sub_tuple_set : isSubtype (.type "tuple") (.type "set") = pure false := by rw [isSubtype_type]; kernel_rfl
theorem sub_tuple_frozenset : isSubtype (.type "tuple") (.type "frozenset") = pure false := by rw [isSubtype_type]; kernel_rfl
theorem sub_gen_set : isSubtype (.type "generator") (.type "set") = pure false := by rw [isSubtype_type]; kernel_rfl
theorem sub_gen_frozenset : isSubtype (.type "generator") (.type "frozenset") = pure false := by rw [isSubtype_type]; kernel_rfl
end F
section
variable {prog : Program} {w : World} {A : Around} {E : Value → Shared → Prop} {s : Shared}

theorem set_new_L (a : Value) {Q₁ : Value → Shared → Prop}
    (h : ∀ led : Bool, (w.params.followText "set-order" = false → led = true) → Q₁ (.ref s.heap.objs.size) { s with heap := s.heap.push { cls := .type "set", dict := none, data := .set #[] 0 (.fresh 0 0 led) } }) :
    codeAny (model prog w) A (.call (.builtin "set.__new__") ⟨[.type "set", a], []⟩) (wants Q₁ E) s := by
  refine codeAny_of_tree ?_
  show wpAny _ A.in1 (do checkBuiltinCall "set.__new__" ⟨[.type "set", a], []⟩; again (.builtin "set.__new__" ⟨[.type "set", a], []⟩)) _ _ s
  refine wpAny_bind (wpAny_of_eq (PySem.F.newCall_set_1 a) (wpAny_pure ⟨plainId_quiet PySem.F.plain_set_new _, codeAny_builtin PySem.F.entry_set_new ?_⟩))
  rw [Around.under_plainId PySem.F.plain_set_new _]
  unfold Builtin.«set.__new__» Builtin.Frozenset.newClass
  have hsub := sub_set_self
  obtain ⟨hp, g, d, tk, os⟩ := s
  dsimp only
  wp_walk
  refine wpAny_askSetting (wpAny_pure ?_)
  dsimp only
  simp only [newObj]
  refine wpAny_bind (wpAny_alloc (wpAny_pure ?_))
  refine wpAny_pure (h _ fun hq => ?_)
  show (!(_ : Bool)) = true
  simp [model, hq]

theorem SetL.new (h : Heap) (led : Bool) (hl : w.params.followText "set-order" = false → led = true) : SetL w (h.push { cls := .type "set", dict := none, data := .set #[] 0 (.fresh 0 0 led) }) h.objs.size [] :=
  ⟨_, #[], 0, _, Heap.get?_push_size _ rfl, ⟨rfl, rfl, rfl⟩, rfl, fun _ he => by simp at he, .nil, .nil, by decide, rfl, hl⟩

set_option maxHeartbeats 3200000 in
/-- set(x) of an iterable that is no set and no dict -/
theorem call_set_H {b : Addr} {T : String} {Q : Value → Shared → Prop} (hT : s.TypeIs (.ref b) T)
    (hs1 : isSubtype (.type T) (.type "set") = pure false) (hs2 : isSubtype (.type T) (.type "frozenset") = pure false) (hs3 : (Value.type T == Value.type "dict") = false)
    (h : ∀ led, SetL w (s.heap.push { cls := .type "set", dict := none, data := .set #[] 0 (.fresh 0 0 led) }) s.heap.objs.size [] →
      wpAny (model prog w) A.in1.in1 (pyIter (.ref b)) (fun it s₂ => codeAny (model prog w) A.in1.in1 (.builtin "set.update.loop" ⟨[.ref s.heap.objs.size, it], []⟩) (wants (fun r s₃ => Q (.ref s.heap.objs.size) s₃) E) s₂) E
        { s with heap := s.heap.push { cls := .type "set", dict := none, data := .set #[] 0 (.fresh 0 0 led) } }) :
    wpAny (model prog w) A (call (.type "set") [.ref b]) Q E s := by
  obtain ⟨c, tl, hmro⟩ := PySem.F.called_set.mro
  have hmade := PySem.F.called_set.made
  have hsub := PySem.F.called_set.sub
  refine wpAny_call (codeAny_of_tree ?_)
  show wpAny _ _ (callAny (.type "set") _) _ _ _
  refine wpAny_pure ⟨Code.quiet_builtin _ (by decide +kernel), codeAny_builtin PySem.F.entry_type_call ?_⟩
  rw [Around.under_plain (weight_type_call_type "set" [.ref b] []) rfl]
  have hn1 := PySem.F.called_set.notType
  have hn2 := PySem.F.called_set.canCreate
  have hct := PySem.F.typeCall_set_1 (.ref b)
  repeat (any_goals (first | assumption | wp_step))
  refine codeAny_mono (set_new_L (.ref b) (E := E) (Q₁ := fun obj s₁ => ∃ led : Bool, (w.params.followText "set-order" = false → led = true) ∧ obj = .ref s.heap.objs.size ∧ s₁ = { s with heap := s.heap.push { cls := .type "set", dict := none, data := .set #[] 0 (.fresh 0 0 led) } }) fun led hl => ⟨led, hl, rfl, rfl⟩) fun r s₁ hr => ?_
  cases r with
  | error e => exact hr
  | ok fl =>
    cases fl with
    | ret obj =>
      obtain ⟨led, hled, rfl, rfl⟩ := hr
      have hS : (s.heap.push { cls := .type "set", dict := none, data := .set #[] 0 (.fresh 0 0 led) }).get? s.heap.objs.size = some { cls := .type "set", dict := none, data := .set #[] 0 (.fresh 0 0 led) } := Heap.get?_push_size _ rfl
      have hTS : Shared.TypeIs { s with heap := s.heap.push { cls := .type "set", dict := none, data := .set #[] 0 (.fresh 0 0 led) } } (.ref s.heap.objs.size) "set" := ⟨_, hS, rfl⟩
      have hli := PySem.F.called_set.init.lookup
      have hbi := PySem.F.called_set.init.bind (.ref s.heap.objs.size)
      repeat (any_goals (first | assumption | wp_step))
      refine codeAny_mono (codeAny_call_builtin (R := wants (fun r s₂ => r = .none ∧ Q (.ref s.heap.objs.size) s₂) E) PySem.F.called_set.init.plain PySem.F.entry_set_init (check_set_init_1 hTS ?_)) fun r₂ s₂ hr₂ => ?_
      · have hb := h led (SetL.new _ led hled)
        obtain ⟨ob, hob, hcb⟩ := hT
        obtain ⟨bcls, bdict, bdata, bslots⟩ := ob
        simp only at hcb
        subst hcb
        have hob' : (s.heap.push { cls := .type "set", dict := none, data := .set #[] 0 (.fresh 0 0 led) }).get? b = some { cls := .type T, dict := bdict, data := bdata, slots := bslots } := Heap.get?_push_of_some _ hob
        unfold Builtin.«set.__init__» noKeywords Builtin.Frozenset.updateFrom
        generalize hPI : pyIter = PI at hb ⊢
        wp_walk
        subst hPI
        refine wpAny_mono hb (fun it s₂ h₂ => wpAny_bind (wpAny_runValue (codeAny_mono h₂ fun r s₃ hr => ?_))) fun _ _ e => e
        cases r with
        | error e => exact hr
        | ok fl =>
          cases fl with
          | ret v => exact wpAny_pure (wpAny_pure ⟨rfl, hr⟩)
          | _ => exact hr.elim
      · cases r₂ with
        | error e => exact hr₂
        | ok fl₂ =>
          cases fl₂ with
          | ret r =>
            obtain ⟨rfl, hq⟩ := hr₂
            repeat (any_goals (first | assumption | wp_step))
          | _ => exact hr₂.elim
    | _ => exact hr.elim
end
end Mine
end

-- part D3
section
open PySem PySem.W PyProof.Rows PySem.Calls
set_option maxRecDepth 100000
namespace Mine
namespace F
theorem gen_keys : typeLookup (.type "generator") "keys" = pure none := by rw [typeLookup_type, builtinLookup_eq_fast]; kernel_rfl
theorem gen_ga_none : typeLookup (.type "generator") "__getattr__" = pure none := by rw [typeLookup_type, builtinLookup_eq_fast]; kernel_rfl
theorem slot_gen_ga : Slot "generator" "__getattribute__" "object.__getattribute__" :=
  .of (owner := "object") (n := "__getattribute__") (by rw [typeLookup_type, builtinLookup_eq_fast]; kernel_rfl) (by decide +kernel) (by decide +kernel) (by decide +kernel)
    (by first | exact .inl (by decide +kernel) | exact .inr (by decide +kernel)) (by rw [isSubtype_type]; kernel_rfl)
end F
section
variable {prog : Program} {w : World} {A : Around} {E : Value → Shared → Prop} {s : Shared}

theorem meets_miss_gen (a : Addr) (o : Obj) (hc : o.cls = .type "generator") (hd : o.dict = none) (vs : Array Value) (hv : o.data = .fields vs) (u : Tok) :
    Meets (Builtin.«object.__getattribute__» ⟨[.ref a, .str "keys" u], []⟩) (fun A R s => s.heap.get? a = some o ∧ raisesAttr (.ref a) "keys" A R s) :=
  Meets.of_wp fun prog w A R s hs => by
    obtain ⟨hp, g, d, tk, os⟩ := s
    obtain ⟨hx, hs⟩ := hs
    obtain ⟨c, dct, dat, sl⟩ := o
    simp only at hc hd hv
    subst hc hd hv
    have hT : (⟨hp, g, d, tk, os⟩ : Shared).TypeIs (.ref a) "generator" := ⟨_, hx, rfl⟩
    have hmiss := F.gen_keys
    unfold Builtin.«object.__getattribute__»
    repeat (any_goals (first | assumption | wp_step))
    exact wpAny_raiseAttrError hs.1 hs.2 (attrMsg_fits (by decide +kernel) (by size_fits))

theorem noKeys_gen {b : Addr} {o : Obj} {vs : Array Value} {Q : Option Value → Shared → Prop} (hh : A.handled = none) (hx : s.heap.get? b = some o) (hc : o.cls = .type "generator") (hd : o.dict = none) (hv : o.data = .fields vs) (h : ∀ h' tk, (∀ a o, s.heap.get? a = some o → h'.get? a = some o) → s.toks ≤ tk → Q none { s with heap := h', toks := tk }) :
    wpAny (model prog w) A (getAttr? (.ref b) "keys") Q E s := by
  refine wpAny_with_toks (Nat.le_refl s.toks) ?_
  obtain ⟨hp, gn, dr, tk, os⟩ := s
  obtain ⟨c, dct, dat, sl⟩ := o
  simp only at hc hd hv
  subst hc hd hv
  have hT : ∀ tk', (⟨hp, gn, dr, tk', os⟩ : Shared).TypeIs (.ref b) "generator" := fun _ => ⟨_, hx, rfl⟩
  have f1 := sub_AttributeError
  have f3 := F.slot_gen_ga.lookup
  have f4 := F.slot_gen_ga.bind (.ref b)
  have f5 := F.gen_ga_none
  unfold getAttr? getAttrBy? getAttrBy
  repeat (any_goals (first | assumption | exact hT _ | ((with_reducible show wpAny _ _ (call (Value.builtin "object.__getattribute__") _ _) _ _ _); refine call_meets F.slot_gen_ga (hT _) PySem.F.entry_object_getattribute (PySem.F.args_object_getattribute_2 _ _) (meets_miss_gen b _ rfl rfl _ rfl _) ⟨hx, hh, fun h' tk' e hx' => ?_⟩) | wp_step))
  obtain ⟨t', u', he⟩ := hx'.there
  show wpAny _ _ (getattributeRaised _ _ _ _ _ _ _) _ _ _
  unfold getattributeRaised
  repeat (any_goals (first | assumption | wp_step))
  exact fun htk => h _ _ hx'.keeps htk

theorem call_any_H {x : Value} {Q : Value → Shared → Prop}
    (h : wpAny (model prog w) A.in1 (pyIter x) (fun it s₂ => codeAny (model prog w) A (.builtin "any.loop" ⟨[it], []⟩) (wants Q E) s₂) E s) :
    wpAny (model prog w) A (call (.builtin "any") [x]) Q E s := by
  refine call_function_tree PySem.F.kind_any PySem.F.plain_any PySem.F.entry_any (PySem.F.args_any1 _) ?_
  unfold Builtin.«any»
  refine wpAny_bind (m := oneArg "any" _) (wpAny_pure ?_)
  refine wpAny_bind (wpAny_mono h (fun it s₂ h₂ => ?_) fun _ _ e => e)
  exact wpAny_pure ⟨plainId_quiet PySem.F.plain_any_loop _, h₂⟩

theorem call_dict_H {b : Addr} {o : Obj} {vs : Array Value} {Q : Value → Shared → Prop} (hh : A.handled = none) (hx : s.heap.get? b = some o) (hc : o.cls = .type "generator") (hd : o.dict = none) (hv : o.data = .fields vs)
    (h : ∀ h' tk, (∀ a o, (s.heap.push { cls := .type "dict", data := .dict #[] }).get? a = some o → h'.get? a = some o) → s.toks ≤ tk → wpAny (model prog w) A.in1.in1 (pyIter (.ref b)) (fun it s₂ => codeAny (model prog w) A.in1 (.builtin "dict.update.loop" ⟨[.ref s.heap.objs.size, it, rawInt 0, .none], []⟩) (wants (fun r s₃ => r = .none ∧ Q (.ref s.heap.objs.size) s₃) E) s₂) E
        { s with heap := h', toks := tk }) :
    wpAny (model prog w) A (call (.type "dict") [.ref b]) Q E s := by
  refine callType_codes (Q₁ := fun obj s₁ => obj = .ref s.heap.objs.size ∧ s₁ = { s with heap := s.heap.push { cls := .type "dict", data := .dict #[] } }) PySem.F.kt_called_dict (PySem.F.kt_typeCall_dict_1 _) PySem.F.entry_dict_init (kt_code_dict_new _ ⟨rfl, rfl⟩) ?_
  rintro obj s₁ ⟨rfl, rfl⟩
  have hnew : (s.heap.push { cls := .type "dict", data := .dict #[] }).DictOf (intKind prog w) s.heap.objs.size [] := Heap.DictOf.new s.heap
  have hx' : (s.heap.push { cls := .type "dict", data := .dict #[] }).get? b = some o := Heap.get?_push_of_some _ hx
  refine ⟨hnew.typeIs, PySem.F.args_dict_init_2 _ _, ?_⟩
  unfold Builtin.«dict.__init__»
  refine wpAny_bind ?_
  unfold Builtin.Dict.selfAndRest
  refine wpAny_bind (wpAny_notOrdered_dict hnew.typeIs ?_)
  show wpAny _ _ (pure (s.heap.objs.size, [Value.ref b])) _ _ _
  refine wpAny_pure ?_
  show wpAny _ _ (Builtin.Dict.updateFrom "dict.__init__" s.heap.objs.size (.ref b) [] .none) _ _ _
  unfold Builtin.Dict.updateFrom
  refine wpAny_bind (wpAny_typeOf (T := "generator") ⟨o, hx', hc⟩ ?_)
  rw [if_pos (by decide)]
  refine wpAny_bind (noKeys_gen hh hx' hc hd hv fun h' tk hk htk => ?_)
  rw [if_pos (by rfl)]
  refine wpAny_bind (wpAny_rule ?_)
  refine wpAny_bind (wpAny_mono (h h' tk hk htk) (fun it s₂ h₂ => ?_) fun _ _ e => e)
  refine wpAny_pure ⟨plainId_quiet plain_dict_loop _, h₂⟩
end
end Mine
end

-- part D4
section
open PySem PySem.W PyProof.Rows PySem.Calls
set_option maxRecDepth 100000
namespace Mine

/-- what a generator over pairs promises at each yield: the i-th value is as F says in the heap of that moment -/
def protoP (C : Addr) (fp wr : List Addr) (n₀ : Nat) (F : Nat → Value → Heap → Heap → Prop) : Protocol := fun m s₀ v s kap =>
  (∃ hm, F (n₀ - 1 - m) v hm s.heap ∧ ∀ b o, b ≠ C → b ∉ wr → s₀.heap.get? b = some o → hm.get? b = some o) ∧ GenSince C wr s₀ s ∧ ∀ s'' : Shared, (∀ b ∈ C :: fp, ∀ o, s.heap.get? b = some o → s''.heap.get? b = some o) → kap (.send .none) s''

section
variable {prog : Program} {w : World} {A : Around}

theorem seg_pairs {elt iter : Expr} {xa xb : Str} {pa pb pt : Pos} {kt : Nat} {scope : Scope} {pos : Pos} {I : Addr} {fp wr : List Addr} {n₀ : Nat} {Pt : Nat → Array Value → Prop} {St₀ : Nat → Heap → Prop} {Mid : Nat → Addr → Heap → Prop} {cenv : Env}
    (hh : A.handled = none) (W₀ : ∀ A' : Around, A'.handled = none → WalksU prog w A' I fp wr n₀ Pt St₀ Mid) (hsz : ∀ i vals, Pt i vals → ∃ va vb, vals = #[va, vb]) (hab : xa ≠ xb) (F : Nat → Value → Heap → Heap → Prop) (href : Heap)
    (hxa : cenv.kindOf xa = some .local) (hxb : cenv.kindOf xb = some .local) (hp : (cenv.scope.kind == .class || (cenv.scope.kind == .module && cenv.locals != cenv.globals)) = false)
    (hco : cenv.scope.isCoroutine = false) (hCf : cenv.locals ∉ fp)
    (hq : ∀ (A' : Around) E' i va vb (s₂ : Shared) m₂, A'.handled = none → i < n₀ → Pt i #[va, vb] → St₀ (i + 1) s₂.heap → s₂.heap.Ns cenv.locals m₂ → m₂ xa = some va → m₂ xb = some vb → (∀ b ∈ fp, b ∉ wr → ∀ o, href.get? b = some o → s₂.heap.get? b = some o) →
      wpAny (model prog w) A' (eval elt cenv) (fun y s₃ => F i y s₂.heap s₃.heap ∧ Keeps s₂ s₃) E' s₂) :
    ∀ (k i : Nat) (s₀ s : Shared) (m : Str → Option Value), n₀ - i = k → i ≤ n₀ → St₀ i s.heap → s.heap.Ns cenv.locals m → GenSince cenv.locals wr s₀ s →
      (∀ b ∈ fp, b ∉ wr → ∀ o, href.get? b = some o → s.heap.get? b = some o) →
      Seg (model prog w) A (fun n s₀ r s₁ => r = .ok .next ∧ (n = 0 ∧ GenSince cenv.locals wr s₀ s₁)) (protoP cenv.locals fp wr n₀ F) (n₀ - i) s₀
        (.compLoop (.GeneratorExp elt [⟨.Tuple [.Name xa pa, .Name xb pb] kt pt, iter, [], 0⟩] scope pos) 0 (.ref I) .none cenv)
        ((model prog w).den (.compLoop (.GeneratorExp elt [⟨.Tuple [.Name xa pa, .Name xb pb] kt pt, iter, [], 0⟩] scope pos) 0 (.ref I) .none cenv)) [] s := by
  have hh' : (A.over (.compLoop (.GeneratorExp elt [⟨.Tuple [.Name xa pa, .Name xb pb] kt pt, iter, [], 0⟩] scope pos) 0 (.ref I) .none cenv) []).handled = none := hh
  have hCw : cenv.locals ∉ wr := fun h => hCf ((W₀ A hh).sub _ h)
  intro k
  induction k with
  | zero =>
    intro i s₀ s m hk hi hst hn hsince hkp
    obtain rfl : i = n₀ := by omega
    show Seg _ A _ _ _ s₀ _ ((compTurn (.GeneratorExp elt [⟨.Tuple [.Name xa pa, .Name xb pb] kt pt, iter, [], 0⟩] scope pos) 0 (.ref I) .none cenv).onRaise (leaving cenv)) [] s
    rw [compTurn_gen, Sem.onRaise_eq_wrap]
    refine seg_bind_wrap (wpAny_standAt ?_)
    refine seg_bind_wrap ((W₀ _ hh').done s _ _ hst fun h' tk hk' => ?_)
    exact seg_end (.ok .next) ⟨rfl, Nat.sub_self _, hsince.step fun b o _ hw e => hk' b o hw e⟩
  | succ k ih =>
    intro i s₀ s m hk hi hst hn hsince hkp
    have hlt : i < n₀ := by omega
    show Seg _ A _ _ _ s₀ _ ((compTurn (.GeneratorExp elt [⟨.Tuple [.Name xa pa, .Name xb pb] kt pt, iter, [], 0⟩] scope pos) 0 (.ref I) .none cenv).onRaise (leaving cenv)) [] s
    rw [compTurn_gen, Sem.onRaise_eq_wrap]
    refine seg_bind_wrap (wpAny_standAt ?_)
    refine seg_bind_wrap ((W₀ _ hh').item i s _ _ hlt hst fun T vals h₁ tk₁ hPv hT₁ hmid hk₁ => ?_)
    obtain ⟨va, vb, rfl⟩ := hsz i vals hPv
    refine seg_bind_wrap ((W₀ _ hh').go _ _ _ i T _ _ _ hmid fun h₁' hst₁ hk₁' => ?_)
    have hT₁' : h₁'.IsTuple T #[va, vb] := let ⟨o, e, r⟩ := hT₁; ⟨o, hk₁' _ o ((W₀ _ hh').apart i T _ hmid) e, r⟩
    refine seg_bind_wrap (wpAny_assign_Tuple hh' hT₁' rfl rfl fun h₁'' hx₁ => ?_)
    replace hx₁ : Heap.ExtBut h₁'.objs.size h₁' h₁'' := hx₁
    have old₁ : ∀ b o, h₁'.get? b = some o → h₁''.get? b = some o := fun b o e => hx₁ b o (Nat.ne_of_lt (Heap.lt_size e)) e
    show wpAny _ _ (do holding [vb] (assign (.Name xa pa) cenv va); do holding [] (assign (.Name xb pb) cenv vb); pure ()) _ _ _
    refine wpAny_bind (wpAny_holding (wpAny_assign_Name (wpAny_storeName_local hxa (hn.at' fun o e => old₁ _ o (hk₁' _ o hCw (hk₁ _ o hCw e))) (fun h₂a hn₂a hs₂a => ?_) hp)))
    replace hs₂a : Heap.SameBut cenv.locals h₁'' h₂a := hs₂a
    refine wpAny_bind (wpAny_holding (wpAny_assign_Name (wpAny_storeName_local hxb hn₂a (fun h₂ hn₂ hs₂ => wpAny_pure ?_) hp)))
    replace hs₂ : Heap.SameBut cenv.locals h₂a h₂ := hs₂
    have up₂ : ∀ b o, b ≠ cenv.locals → b ∉ wr → s.heap.get? b = some o → h₂.get? b = some o := fun b o hbC hbw e => hs₂.extBut b o hbC (hs₂a.extBut b o hbC (old₁ b o (hk₁' b o hbw (hk₁ b o hbw e))))
    have hst₂ : St₀ (i + 1) h₂ := (W₀ A hh).frame _ _ _ hst₁ fun b hb o e => hs₂.extBut b o (fun h => hCf (h ▸ hb)) (hs₂a.extBut b o (fun h => hCf (h ▸ hb)) (old₁ b o e))
    have hkp₂ : ∀ b ∈ fp, b ∉ wr → ∀ o, href.get? b = some o → h₂.get? b = some o := fun b hb hbw o e => up₂ b o (fun h => hCf (h ▸ hb)) hbw (hkp b hb hbw o e)
    refine seg_bind_wrap (wpAny_pure ?_)
    simp only [if_true]
    have hy : ∀ v, yieldOut cenv v = yieldValue v := fun v => by simp only [yieldOut, hco, Bool.false_eq_true, if_false]
    simp only [hy]
    have hn' : n₀ - i = n₀ - (i + 1) + 1 := by omega
    rw [hn']
    rw [Sem.bind_eq_wrap', Sem.bind_eq_wrap', Sem.wrap_wrap, Sem.wrap_wrap]
    refine seg_wrap (wpAny_mono (hq _ (fun _ _ => False) i va vb _ _ hh' hlt hPv hst₂ hn₂ (by simp [hab]) (by simp) hkp₂) (fun y s₄ h₄ => ?_) fun _ _ e => e.elim)
    obtain ⟨hFy, h₄, tk₄, rfl, hk₄⟩ := h₄
    refine seg_at (seg_yield rfl rfl rfl ⟨?_, (hsince.step (tk := tk₄) fun b o hbC hbw e => hk₄ b o (up₂ b o hbC hbw e)), fun s'' hal => ?_⟩)
    · rw [show n₀ - 1 - (n₀ - (i + 1)) = i by omega]
      obtain ⟨h₀', tk₀', rfl, hk₀'⟩ := hsince
      exact ⟨_, hFy, fun b o hbC hbw e => up₂ b o hbC hbw (hk₀' b o hbC hbw e)⟩
    refine seg_again rfl (ih (i + 1) s'' s'' _ (by omega) hlt ((W₀ A hh).frame _ _ _ hst₂ fun b hb o e => hal b (List.mem_cons_of_mem _ hb) o (hk₄ b o e))
      ((hn₂.keeps hk₄).at' fun o e => hal _ (List.mem_cons_self ..) o e) (GenSince.refl _ _ _) fun b hb hbw o e => hal b (List.mem_cons_of_mem _ hb) o (hk₄ b o (hkp₂ b hb hbw o e)))

def GenP (prog : Program) (w : World) (A : Around) (a : Addr) (g : Nat) (C : Addr) (fp wr : List Addr) (n₀ : Nat) (F : Nat → Value → Heap → Heap → Prop) (j : Nat) (s : Shared) : Prop :=
  s.heap.IsGen a g ∧ s.heap.NoLimit ∧ ∃ gs, s.gens[g]? = some gs ∧ ∀ s'' : Shared, (∀ b ∈ C :: fp, ∀ o, s.heap.get? b = some o → s''.heap.get? b = some o) →
    gs.Goes (model prog w) A.in1 (fun n s₀ r s₁ => r = .ok .next ∧ (n = 0 ∧ GenSince C wr s₀ s₁)) (protoP C fp wr n₀ F) (n₀ - j) (.send .none) s''

theorem WalkH.pairs (hh : A.handled = none) (a : Addr) (g : Nat) (C : Addr) (fp wr : List Addr) (n₀ : Nat) (F : Nat → Value → Heap → Heap → Prop) (haC : a ≠ C) (haf : a ∉ fp) (hsub : ∀ b ∈ wr, b ∈ fp)
    (hroom : A.depth < recursionLimit) (hcs : cStatics ∈ fp) (hcC : cStatics ≠ C) (hcw : cStatics ∉ wr) :
    WalkH prog w A a (a :: C :: fp) (C :: wr) (GenOnlyQ g) n₀ (fun i v h0 h1 => ∃ hm, F i v hm h1 ∧ ∀ b o, b ≠ C → b ∉ wr → h0.get? b = some o → hm.get? b = some o) (GenP prog w A a g C fp wr n₀ F) where
  sub := fun b hb => by
    rcases List.mem_cons.mp hb with rfl | hb
    · simp
    · exact List.mem_cons_of_mem _ (List.mem_cons_of_mem _ (hsub b hb))
  frame := fun j s h' tk st _ hk =>
    ⟨let ⟨o, nm, qn, ho, r⟩ := st.1; ⟨o, nm, qn, hk a (List.mem_cons_self ..) o ho, r⟩,
     (let ⟨mc, hns, hnn⟩ := st.2.1; ⟨mc, hns.at' fun o e => hk cStatics (List.mem_cons_of_mem _ (List.mem_cons_of_mem _ hcs)) o e, hnn⟩),
     let ⟨gs, hgs, hgo⟩ := st.2.2; ⟨gs, hgs, fun s'' hal => hgo s'' fun b hb o e => hal b hb o (hk b (List.mem_cons_of_mem _ hb) o e)⟩⟩
  item := fun j s Q E hj st hQ => by
    obtain ⟨hg, hl, gs, hgs, hgo⟩ := st
    obtain ⟨m, hm⟩ : ∃ m, n₀ - j = m + 1 := ⟨n₀ - j - 1, by omega⟩
    rw [hm] at hgo
    refine wpAny_with_toks (Nat.le_refl s.toks) ?_
    refine wpAny_pyNext_genexpQ (P := fun n s₀ s₁ => n = 0 ∧ GenSince C wr s₀ s₁) hh hl hroom hg hgs (hgo _ fun _ _ _ e => e) (fun v s₁ gs' hb hv => ?_) (fun s₁ hp h' hk => ?_)
    · obtain ⟨hF, ⟨h₁, tk₁, rfl, hk₁⟩, hkap⟩ := hv
      have haw : a ∉ wr := fun h => haf (hsub a h)
      intro htk
      refine hQ v _ ?_ ⟨let ⟨o, nm, qn, ho, r⟩ := hg; ⟨o, nm, qn, hk₁ a o haC haw ho, r⟩, (let ⟨mc, hns, hnn⟩ := hl; ⟨mc, hns.at' fun o e => hk₁ cStatics o hcC hcw e, hnn⟩), gs', setGen_self (gs := .running) (setGen_self hgs), fun s'' hal => ?_⟩
        ⟨fun b o hb e => hk₁ b o (fun h => hb (h ▸ List.mem_cons_self ..)) (fun h => hb (List.mem_cons_of_mem _ h)) e, GenOnlyQ.of ((GenOnly.setGen s g .running).trans (GenOnly.setGen _ g gs')) (setGen_self (gs := .running) (setGen_self hgs)) hb, rfl, rfl, htk⟩
      · have e1 : n₀ - 1 - (m + 1 - 1) = j := by omega
        rw [e1] at hF; exact hF
      · have e : n₀ - (j + 1) = m := by omega
        rw [e]
        exact hkap s'' hal
    · exact absurd hp.1 (Nat.succ_ne_zero m)
  done := fun s Q E st hQ => by
    obtain ⟨hg, hl, gs, hgs, hgo⟩ := st
    rw [Nat.sub_self] at hgo
    refine wpAny_with_toks (Nat.le_refl s.toks) ?_
    refine wpAny_pyNext_genexpQ (P := fun n s₀ s₁ => n = 0 ∧ GenSince C wr s₀ s₁) hh hl hroom hg hgs (hgo _ fun _ _ _ e => e) (fun v s₁ gs' hb hv => ?_) (fun s₁ hp h' hk => ?_)
    · obtain ⟨_, _, hkap⟩ := hv
      exact False.elim (hkap s₁ fun _ _ _ e => e)
    · obtain ⟨_, h₁, tk₁, rfl, hk₁⟩ := hp
      intro htk
      exact hQ _ ⟨fun b o hb e => hk b o (hk₁ b o (fun h => hb (h ▸ List.mem_cons_self ..)) (fun h => hb (List.mem_cons_of_mem _ h)) e), GenOnlyQ.of ((GenOnly.setGen s g .running).trans (GenOnly.setGen _ g .finished)) (setGen_self (gs := .running) (setGen_self hgs)) rfl, rfl, rfl, htk⟩
end
end Mine
end

-- part D5
section
open PySem PySem.W PyProof.Rows PySem.Calls
set_option maxRecDepth 100000
namespace Mine
section
variable {prog : Program} {w : World} {A : Around} {E : Value → Shared → Prop} {s : Shared}

theorem seg_pairs_start {elt iter : Expr} {xa xb : Str} {pa pb pt : Pos} {kt : Nat} {scope : Scope} {pos : Pos} {I : Addr} {fp wr : List Addr} {n₀ : Nat} {Pt : Nat → Array Value → Prop} {St₀ : Nat → Heap → Prop} {Mid : Nat → Addr → Heap → Prop} {cenv : Env}
    (hh : A.handled = none) (W₀ : ∀ A' : Around, A'.handled = none → WalksU prog w A' I fp wr n₀ Pt St₀ Mid) (hsz : ∀ i vals, Pt i vals → ∃ va vb, vals = #[va, vb]) (hab : xa ≠ xb) (F : Nat → Value → Heap → Heap → Prop) (href : Heap)
    (hxa : cenv.kindOf xa = some .local) (hxb : cenv.kindOf xb = some .local) (hp : (cenv.scope.kind == .class || (cenv.scope.kind == .module && cenv.locals != cenv.globals)) = false)
    (hco : cenv.scope.isCoroutine = false) (hCf : cenv.locals ∉ fp)
    (hq : ∀ (A' : Around) E' i va vb (s₂ : Shared) m₂, A'.handled = none → i < n₀ → Pt i #[va, vb] → St₀ (i + 1) s₂.heap → s₂.heap.Ns cenv.locals m₂ → m₂ xa = some va → m₂ xb = some vb → (∀ b ∈ fp, b ∉ wr → ∀ o, href.get? b = some o → s₂.heap.get? b = some o) →
      wpAny (model prog w) A' (eval elt cenv) (fun y s₃ => F i y s₂.heap s₃.heap ∧ Keeps s₂ s₃) E' s₂)
    (s₀ s : Shared) (m : Str → Option Value) (hst : St₀ 0 s.heap) (hn : s.heap.Ns cenv.locals m) (hsince : GenSince cenv.locals wr s₀ s)
    (hkp : ∀ b ∈ fp, b ∉ wr → ∀ o, href.get? b = some o → s.heap.get? b = some o) :
    Seg (model prog w) A (fun n s₀ r s₁ => r = .ok .next ∧ (n = 0 ∧ GenSince cenv.locals wr s₀ s₁)) (protoP cenv.locals fp wr n₀ F) n₀ s₀
      (.compStart (.GeneratorExp elt [⟨.Tuple [.Name xa pa, .Name xb pb] kt pt, iter, [], 0⟩] scope pos) 0 (.ref I) .none cenv)
      ((model prog w).den (.compStart (.GeneratorExp elt [⟨.Tuple [.Name xa pa, .Name xb pb] kt pt, iter, [], 0⟩] scope pos) 0 (.ref I) .none cenv)) [] s := by
  have hh' : (A.over (.compStart (.GeneratorExp elt [⟨.Tuple [.Name xa pa, .Name xb pb] kt pt, iter, [], 0⟩] scope pos) 0 (.ref I) .none cenv) []).handled = none := hh
  have loop := seg_pairs (iter := iter) (pa := pa) (pb := pb) (pt := pt) (kt := kt) (scope := scope) (pos := pos) hh W₀ hsz hab F href hxa hxb hp hco hCf hq n₀ 0 s₀ s m (Nat.sub_zero _) (Nat.zero_le _) hst hn hsince hkp
  show Seg _ A _ _ _ s₀ _ ((compStart (.GeneratorExp elt [⟨.Tuple [.Name xa pa, .Name xb pb] kt pt, iter, [], 0⟩] scope pos) 0 (.ref I) .none cenv).onRaise (leaving cenv)) [] s
  unfold compStart
  rw [Sem.onRaise_eq_wrap]
  show Seg _ A _ _ _ s₀ _ ((ask >>= _).wrap _ _ _ _) [] s
  refine seg_bind_wrap (wpAny_askSetting ?_)
  split
  · exact seg_again rfl loop
  · first
      | exact seg_bind_wrap (wpAny_rule (seg_bind_wrap (wpAny_standAt (seg_bind_wrap ((W₀ _ hh').self 0 s _ _ hst (seg_again rfl loop))))))
      | (refine seg_bind_wrap (wpAny_rule ?_); show Seg _ A _ _ _ s₀ _ ((standAt iter.pos >>= _).wrap _ _ _ _) [] s; exact seg_bind_wrap (wpAny_standAt (seg_bind_wrap ((W₀ _ hh').self 0 s _ _ hst (seg_again rfl loop)))))

/-- a generator expression over pairs whose values may live in the heap -/
theorem GenExp_pairs {env : Env} {elt iter : Expr} {xa xb : Str} {pa pb pt : Pos} {kt : Nat} {scope : Scope} {cl : List (Str × Addr)} {pos : Pos} {Q : Value → Shared → Prop}
    (hh : A.handled = none) (hco : scope.isCoroutine = false) (hclos : closureFor scope env = pure cl) (hcell : ∀ y ∈ scope.names, y.2 ≠ .cell) (h0 : scope.names.lookup (".0" : Str) = some NameKind.local)
    (hxa : scope.names.lookup xa = some .local) (hxb : scope.names.lookup xb = some .local) (hab : xa ≠ xb) (hkind : scope.kind = .function) (hroom : A.depth < recursionLimit)
    (h : wpAny (model prog w) A (eval iter env) (fun xv s₁ => wpAny (model prog w) A (pyIter xv) (fun it s₂ => s₂.heap.NoLimit ∧
      wpAny (model prog w) A (genexprCode env pos (env.qual ++ "<genexpr>") scope) (fun code s₃ => wpAny (model prog w) A (builtinsFor env.globals env.builtins) (fun bi s₄ =>
        ∃ I fp wr n₀ Pt St₀ Mid, ∃ F : Nat → Value → Heap → Heap → Prop, it = .ref I ∧ (∀ A' : Around, A'.handled = none → WalksU prog w A' I fp wr n₀ Pt St₀ Mid) ∧ (∀ i vals, Pt i vals → ∃ va vb, vals = #[va, vb]) ∧ St₀ 0 s₄.heap ∧ (∀ b ∈ fp, b < s₄.heap.objs.size) ∧ s₄.heap.NoLimit ∧ cStatics ∉ wr ∧
          (∀ (A' : Around) E' i va vb (s₂ : Shared) m₂, A'.handled = none → i < n₀ → Pt i #[va, vb] → St₀ (i + 1) s₂.heap → s₂.heap.Ns s₄.heap.objs.size m₂ → m₂ xa = some va → m₂ xb = some vb → (∀ b, b ∉ wr → ∀ o, s₄.heap.get? b = some o → s₂.heap.get? b = some o) →
            wpAny (model prog w) A' (eval elt (genEnv scope cl s₄.heap.objs.size code bi env)) (fun y s₃ => F i y s₂.heap s₃.heap ∧ Keeps s₂ s₃) E' s₂) ∧
          (∀ a h₅ tk gs o vs, gs.bare = true → s₄.heap.objs.size < a → h₅.objs.size = a + 1 → (∀ b o, s₄.heap.get? b = some o → h₅.get? b = some o) → h₅.get? a = some o → o.cls = .type "generator" → o.dict = none → o.data = .fields vs →
            WalkH prog w A.in4 a (a :: s₄.heap.objs.size :: List.range s₄.heap.objs.size) (s₄.heap.objs.size :: wr) (GenOnlyQ s₄.gens.size) n₀ (fun i v h0 h1 => ∃ hm, F i v hm h1 ∧ ∀ b o, b ≠ s₄.heap.objs.size → b ∉ wr → h0.get? b = some o → hm.get? b = some o) (GenP prog w A.in4 a s₄.gens.size s₄.heap.objs.size (List.range s₄.heap.objs.size) wr n₀ F) →
            GenP prog w A.in4 a s₄.gens.size s₄.heap.objs.size (List.range s₄.heap.objs.size) wr n₀ F 0 { s₄ with gens := s₄.gens.push gs, toks := tk, heap := h₅ } →
            Q (.ref a) { s₄ with gens := s₄.gens.push gs, toks := tk, heap := h₅ })) E s₃) E s₂) E s₁) E s)
    (hs : ∀ x, genFold iter env x = pure x) :
    wpAny (model prog w) A (eval (.GeneratorExp elt [⟨.Tuple [.Name xa pa, .Name xb pb] kt pt, iter, [], 0⟩] scope pos) env) Q E s := by
  refine wpAny_GeneratorExp_make hco hclos hcell h0 hkind hroom (wpAny_mono h (fun xv s₁ h₁ => wpAny_mono h₁ (fun it s₂ h₂ => ⟨h₂.1, wpAny_mono h₂.2 (fun code s₃ h₃ => wpAny_mono h₃ (fun bi s₄ h₄ => ?_)
    fun _ _ e => e) fun _ _ e => e⟩) fun _ _ e => e) fun _ _ e => e) hs
  obtain ⟨I, fp, wr, n₀, Pt, St₀, Mid, F, rfl, W₀, hsz2, hst, hfp, hl₄, hcw, hq, hQ⟩ := h₄
  have hclt : cStatics < s₄.heap.objs.size := let ⟨_, hn, _⟩ := hl₄; hn.lt
  intro h' hn' hs'
  have hsz : h'.objs.size = s₄.heap.objs.size + 1 := by rw [hs'.1, Heap.size_push]
  have keep' : ∀ b o, s₄.heap.get? b = some o → h'.get? b = some o := fun b o e => hs'.extBut b o (Nat.ne_of_lt (Heap.lt_size e)) (Heap.get?_push_of_some _ e)
  have hsub : ∀ b ∈ wr, b ∈ List.range s₄.heap.objs.size := fun b hb => List.mem_range.mpr (hfp b ((W₀ A hh).sub b hb))
  have haC : h'.objs.size ≠ s₄.heap.objs.size := by rw [hsz]; exact Nat.succ_ne_self _
  have haf : h'.objs.size ∉ List.range s₄.heap.objs.size := fun hm => by have := List.mem_range.mp hm; omega
  have keep₅ : ∀ b o, s₄.heap.get? b = some o → (h'.push { cls := .type "generator", data := .fields #[.int s₄.gens.size 0, .str "<genexpr>" (s₄.toks + 1), .str (env.qual ++ "<genexpr>") (s₄.toks + 1 + 1)] }).get? b = some o :=
    fun b o e => Heap.get?_push_of_some _ (keep' b o e)
  refine hQ _ _ _ _ _ _ rfl (by omega) (by rw [Heap.size_push]) keep₅ (Heap.get?_push_size _ rfl) rfl rfl rfl (WalkH.pairs (A := A.in4) hh _ _ _ _ wr n₀ F haC haf hsub hroom (List.mem_range.mpr hclt) (Nat.ne_of_lt hclt) hcw) ?_
  refine ⟨⟨_, _, _, Heap.get?_push_size _ rfl, rfl, rfl, rfl⟩, hl₄.keeps keep₅, _, Array.getElem?_push_size .., fun s'' hal => ⟨rfl, ?_⟩⟩
  refine seg_pairs_start (A := A.in4.in1) (cenv := genEnv scope cl s₄.heap.objs.size code bi env) (m := fun y => if y = ".0" then some (.ref I) else none) hh
    (fun A' hA => (W₀ A' hA).mono_fp fun b hb => List.mem_range.mpr (hfp b hb)) hsz2 hab F s₄.heap hxa hxb (by simp [genEnv, hkind]) hco
    (fun hm => Nat.lt_irrefl _ (List.mem_range.mp hm)) (fun A' E' i va vb s₂ m₂ hA hi hP hst hn hma hmb hkp => hq A' E' i va vb s₂ m₂ hA hi hP hst hn hma hmb fun b hb o e => hkp b (List.mem_range.mpr (Heap.lt_size e)) hb o e)
    s'' s'' ((W₀ A hh).frame _ _ _ hst fun b hb o e => hal b (List.mem_cons_of_mem _ (List.mem_range.mpr (hfp b hb))) o (keep₅ b o e)) (hn'.at' fun o e => hal _ (List.mem_cons_self ..) o (Heap.get?_push_of_some _ e)) (GenSince.refl _ _ _) fun b hb _ o e => hal b (List.mem_cons_of_mem _ hb) o (keep₅ b o e)
end
end Mine
end

-- part D6
section
open PySem PySem.W PyProof.Rows PySem.Calls
set_option maxRecDepth 100000
namespace Mine
section
variable {prog : Program} {w : World} {A : Around} {E : Value → Shared → Prop} {s : Shared}

theorem WalksU.dictItems {K : Type} [DecidableEq K] {knd : KeyKind prog w K} (hh : A.handled = none) (I d : Addr) (hne : d ≠ I) (kvs : List (K × Value)) (ep : Nat) :
    WalksU prog w A I [I, d] [I] kvs.length (fun i vals => ∃ key k x, kvs[i]? = some (k, x) ∧ knd.is k key = true ∧ vals = #[key, x])
      (fun i h => (∃ ok ov, IsItemIter h I d i kvs.length ep ok ov) ∧ h.DictAt knd d kvs ep)
      (fun i T h => ∃ ok ov, IsItemIterOut h I d (i + 1) kvs.length ep ok ov T ∧ h.DictAt knd d kvs ep ∧ T ≠ I) where
  sub := fun b hb => by simp at hb; simp [hb]
  frame := fun i h h' st hk => by
    obtain ⟨⟨ok, ov, he⟩, hm⟩ := st
    exact ⟨⟨ok, ov, hk I (by simp) _ he⟩, hm.at' fun o e => hk d (by simp) o e⟩
  item := fun i s Q E hi st hQ => by
    obtain ⟨⟨ok, ov, he⟩, hm⟩ := st
    obtain ⟨⟨k, x⟩, hx⟩ : ∃ p, kvs[i]? = some p := ⟨kvs[i], by simp [hi]⟩
    refine wpAny_pyNext_items_item he hm hx fun key h' hkey ho hT hsz hk => ?_
    exact hQ s.heap.objs.size #[key, x] h' s.toks ⟨key, k, x, hx, hkey, rfl⟩ ⟨_, hT, rfl, _, rfl⟩ ⟨key, x, ho, hm.at' (fun o e => hk d o hne e), Nat.ne_of_gt (Heap.lt_size he)⟩ fun b o hb e => hk b o (fun h => hb (by simp [h])) e
  go := fun elts k pos i T s Q E hm hQ => by
    obtain ⟨ok, ov, ho, hd, hTI⟩ := hm
    refine wpAny_letOwnedTupleGo_items ho fun h' he hs => ?_
    exact hQ h' ⟨⟨ok, ov, he⟩, hd.extBut hs.extBut hne⟩ fun b o hb e => hs.extBut b o (fun h => hb (by simp [h])) e
  apart := fun i T h hm => by
    obtain ⟨ok, ov, ho, hd, hTI⟩ := hm
    simpa using hTI
  done := fun s Q E st hQ => by
    obtain ⟨⟨ok, ov, he⟩, hm⟩ := st
    exact wpAny_pyNext_items_end hh he hm (by simp) fun h' hx => hQ h' s.toks fun b o hb e => hx b o (fun h => hb (by simp [h])) e
  self := fun i s Q E st hQ => by
    obtain ⟨⟨ok, ov, he⟩, hm⟩ := st
    exact kcp_self he hQ

theorem call_set_tup {t : Addr} {vs : List Value} {ns : List Int} {Q : Value → Shared → Prop} (hh : A.handled = none) (ht : IsTup s.heap t vs.toArray) (hi : IntsAre vs ns) (hlen : ns.length < 900)
    (h : ∀ h' tk ks, (∀ b o, s.heap.get? b = some o → h'.get? b = some o) → SetL w h' s.heap.objs.size ks → (∀ k, k ∈ ks ↔ k ∈ ns) → s.toks ≤ tk → Q (.ref s.heap.objs.size) { s with heap := h', toks := tk }) :
    wpAny (model prog w) A (call (.type "set") [.ref t]) Q E s := by
  obtain ⟨ot, hot, hct, nt, hdt⟩ := id ht
  refine call_set_H (T := "tuple") ⟨ot, hot, hct⟩ F.sub_tuple_set F.sub_tuple_frozenset (by decide) fun led hS => ?_
  generalize hob : ({ cls := .type "set", dict := none, data := .set #[] 0 (.fresh 0 0 led) } : Obj) = ob at hS ⊢
  generalize hSe : s.heap.objs.size = S at hS ⊢
  have hSn : s.heap.get? S = none := hSe ▸ get_size s.heap
  have ht' : (s.heap.push ob).IsTuple t vs.toArray := ⟨ot, Heap.get?_push_of_some _ hot, hct, nt, hdt⟩
  refine wpAny_pyIter_tuple ht' ?_
  dsimp only
  have hin : (s.heap.push ob).get? (s.heap.push ob).objs.size = none := get_size _
  have htI : t ≠ (s.heap.push ob).objs.size := ne_of_get (Heap.get?_push_of_some _ hot) hin
  have htS : t ≠ S := ne_of_get hot hSn
  have hSI : S ≠ (s.heap.push ob).objs.size := ne_of_get' hS.live hin
  generalize hIe : (s.heap.push ob).objs.size = I at hin htI hSI ⊢
  generalize hio : ({ cls := .type "tuple_iterator", data := .fields #[.ref t, .int 0 0] } : Obj) = io
  have hvl : vs.toArray.size = ns.length := by rw [List.size_toArray, hi.length]
  have W := WalkH.ofS (Walks.tuple (prog := prog) (w := w) (A := A.in1.in1.in1) (by exact hh) I t htI vs.toArray).toS
  refine loop_set W (S := S) (by simp [hSI, Ne.symm htS])
    (fun i s' => s'.gens = s.gens ∧ s'.drawn = s.drawn ∧ s'.os = s.os ∧ s.toks ≤ s'.toks ∧ (∀ b o, s.heap.get? b = some o → s'.heap.get? b = some o) ∧ ∃ ks, SetL w s'.heap S ks ∧ (∀ k, k ∈ ks ↔ k ∈ ns.take i) ∧ ks.length ≤ i) ?_ ?_ _ 0 _ rfl (Nat.zero_le _) ?_ ?_
  · rintro i v s₁ s₂ hi' ⟨j1, j2, j3, j4, j5, ks, j6, j7, j8⟩ hP hm
    have hi'' : i < ns.length := by rw [← hvl]; exact hi'
    obtain ⟨tv, ev⟩ := hi.get i ns[i] (by simp)
    have hve : v = .int ns[i] tv := by
      have hv2 : vs[i]? = some v := by simpa using hP
      rw [ev] at hv2; exact (Option.some.inj hv2).symm
    refine ⟨ns[i], tv, ks, hve, j6.at fun o e => hm.heap S o (by simpa using hSI) e, by omega, fun h' hs' hS' => ⟨hm.gens.trans j1, hm.drawn.trans j2, hm.os.trans j3, ?_, fun b o e => hs'.extBut b o ?_ (hm.heap b o ?_ (j5 b o e)), _, hS', fun k => ?_, ?_⟩⟩
    · exact Nat.le_succ_of_le (Nat.le_trans j4 hm.toks)
    · exact ne_of_get e hSn
    · simpa using fun q : b = I => by rw [q] at e; rw [Heap.get?_push_of_some _ e] at hin; cases hin
    · rw [List.take_add_one, List.getElem?_eq_getElem hi'']
      by_cases q : ns[i] ∈ ks
      · rw [if_pos q, j7]
        simp only [Option.toList_some, List.mem_append, List.mem_singleton]
        exact ⟨.inl, fun z => z.elim id fun z => z ▸ (j7 _).mp q⟩
      · rw [if_neg q, List.mem_cons, j7]
        simp only [Option.toList_some, List.mem_append, List.mem_singleton]
        exact Or.comm
    · split
      · omega
      · simp only [List.length_cons]; omega
  · rintro s₁ s₂ ⟨j1, j2, j3, j4, j5, ks, j6, j7, j8⟩ hm
    rw [hvl, List.take_length] at j7
    have := h s₂.heap s₂.toks ks (fun b o e => hm.heap b o (by simpa using fun q : b = I => by rw [q] at e; rw [Heap.get?_push_of_some _ e] at hin; cases hin) (j5 b o e)) (hSe ▸ j6.at fun o e => hm.heap S o (by simpa using hSI) e) j7 (Nat.le_trans j4 hm.toks)
    rw [hSe] at this
    obtain ⟨hp2, g2, d2, t2, o2⟩ := s₂
    obtain rfl : g2 = s.gens := hm.gens.trans j1
    obtain rfl : d2 = s.drawn := hm.drawn.trans j2
    obtain rfl : o2 = s.os := hm.os.trans j3
    exact this
  · exact ⟨⟨io, by rw [← hIe]; exact Heap.get?_push_size _ (by rw [← hio]; rfl), by rw [← hio]; exact ⟨rfl, rfl⟩⟩, ht'.push _⟩
  · refine ⟨rfl, rfl, rfl, Nat.le_refl _, fun b o e => Heap.get?_push_of_some _ (Heap.get?_push_of_some _ e), [], hS.at fun o e => Heap.get?_push_of_some _ e, fun k => by simp, Nat.le_refl _⟩
end
end Mine
end

-- part D7
section
open PySem PySem.W PyProof.Rows PySem.Calls
set_option maxRecDepth 100000
namespace Mine
section
variable {prog : Program} {w : World} {A : Around} {E : Value → Shared → Prop} {s : Shared}

def SDict (prog : Program) (w : World) (h : Heap) (d : Addr) (g : List (Int × Addr × List Int)) : Prop :=
  h.DictOf (intKind prog w) d (g.map fun x => (x.1, .ref x.2.1)) ∧ ∀ x ∈ g, SetL w h x.2.1 x.2.2
theorem SDict.nodup {h : Heap} {d : Addr} {g : List (Int × Addr × List Int)} (x : SDict prog w h d g) : (g.map (·.1)).Nodup := by
  obtain ⟨⟨_, _, _, _, _, _, _, _, hn⟩, _⟩ := x
  rw [List.map_map] at hn; exact hn

theorem tab_ne {h : Heap} {c P b : Addr} {ps : Array Value} {o : Obj} (T : h.TableAt c P ps) (e : h.get? b = some o) (hd : ∀ vs, o.data ≠ .fields vs) : b ≠ P := by
  rintro rfl
  rw [T.2] at e
  cases e
  exact hd _ rfl
theorem ns_off {h : Heap} {c P b : Addr} {ps : Array Value} {m : Str → Option Value} (T : h.TableAt c P ps) (x : h.Ns b m) : b ≠ P := by
  obtain ⟨o, es, n, ho, hd, _⟩ := x
  exact tab_ne T ho fun vs q => by rw [hd] at q; cases q
theorem dict_off {h : Heap} {c P b : Addr} {ps : Array Value} {kvs : List (Int × Value)} (T : h.TableAt c P ps) (x : h.DictOf (intKind prog w) b kvs) : b ≠ P := by
  obtain ⟨o, es, n, ho, hc, hd, _⟩ := x
  exact tab_ne T ho fun vs q => by rw [hd] at q; cases q
theorem tup_off {h : Heap} {c P b : Addr} {ps : Array Value} {vs : Array Value} (T : h.TableAt c P ps) (x : IsTup h b vs) : b ≠ P := by
  obtain ⟨o, ho, hc, n, hd⟩ := x
  exact tab_ne T ho fun vs q => by rw [hd] at q; cases q
theorem list_off {h : Heap} {c P b : Addr} {ps : Array Value} {vs : Array Value} (T : h.TableAt c P ps) (x : h.IsList b vs) : b ≠ P := by
  obtain ⟨o, ho, hc, n, hd⟩ := x
  exact tab_ne T ho fun vs q => by rw [hd] at q; cases q
theorem set_off {h : Heap} {c P b : Addr} {ps : Array Value} {ks : List Int} (T : h.TableAt c P ps) (x : SetL w h b ks) : b ≠ P := by
  obtain ⟨o, es, ep, t, ho, _, hd, _⟩ := x
  exact tab_ne T ho fun vs q => by rw [hd] at q; cases q
theorem cell_off {h : Heap} {c P b : Addr} {ps : Array Value} {v : Option Value} (T : h.TableAt c P ps) (x : h.IsCell b v) : b ≠ P := by
  obtain ⟨o, ho, hd⟩ := x
  exact tab_ne T ho fun vs q => by rw [hd] at q; cases q
theorem Gl.off {h h' : Heap} {mg mb : Str → Option Value} {c P : Addr} {ps : Array Value} (G : Gl mg mb h) (T : h.TableAt c P ps) (k : Fm [P] h h') : Gl mg mb h' :=
  ⟨G.g.at' fun o e => k _ o (by simpa using ns_off T G.g) e, G.b.at' fun o e => k _ o (by simpa using ns_off T G.b) e,
   let ⟨mc, hn, h2⟩ := G.nl; ⟨mc, hn.at' fun o e => k _ o (by simpa using ns_off T hn) e, h2⟩, G.bt⟩
/-- the built-in module's own row -/
def BM (h : Heap) (mg : Str → Option Value) : Prop := ∃ bm ob, mg "__builtins__" = some (.ref bm) ∧ bm ≠ builtinsNs ∧ h.get? bm = some ob ∧ ob.cls = .type "module" ∧ ob.dict = some builtinsNs ∧ ob.data = .plain
theorem BM.off {h h' : Heap} {mg : Str → Option Value} {c P : Addr} {ps : Array Value} (x : BM h mg) (T : h.TableAt c P ps) (k : Fm [P] h h') : BM h' mg :=
  let ⟨bm, ob, a1, a2, a3, a4, a5, a6⟩ := x; ⟨bm, ob, a1, a2, k bm ob (by simpa using tab_ne T a3 fun vs q => by rw [a6] at q; cases q) a3, a4, a5, a6⟩
theorem BM.keeps {h h' : Heap} {mg : Str → Option Value} (x : BM h mg) (k : ∀ b o, h.get? b = some o → h'.get? b = some o) : BM h' mg :=
  let ⟨bm, ob, a1, a2, a3, r⟩ := x; ⟨bm, ob, a1, a2, k bm ob a3, r⟩
theorem BM.for {mg mb : Str → Option Value} {Q : Addr → Shared → Prop} (x : BM s.heap mg) (G : Gl mg mb s.heap) (h : Q builtinsNs s) : wpAny (model prog w) A (builtinsFor mainGlobals builtinsNs) Q E s :=
  let ⟨_, _, a1, a2, a3, a4, a5, a6⟩ := x; wpAny_builtinsFor G.g a1 a2 a3 a4 a5 a6 h

theorem isCode_at {h h' : Heap} {c P : Addr} {ps : Array Value} (x : h.IsCode c P ps) (hc : ∀ o, h.get? c = some o → h'.get? c = some o) (hP : ∀ o, h.get? P = some o → h'.get? P = some o) : h'.IsCode c P ps := by
  obtain ⟨o, vs, file, tf, flags, tg, inF, text, tt, op, ho, hd, h11, h2, h7, h9, h10, hop, hpd, htr, hne⟩ := x
  exact ⟨o, vs, file, tf, flags, tg, inF, text, tt, op, hc _ ho, hd, h11, h2, h7, h9, h10, hP _ hop, hpd, htr, hne⟩
theorem isCode_live {h : Heap} {c P : Addr} {ps : Array Value} (x : h.IsCode c P ps) : ∃ o, h.get? c = some o := by
  obtain ⟨o, vs, file, tf, flags, tg, inF, text, tt, op, ho, _⟩ := x
  exact ⟨o, ho⟩
theorem tabAt_at {h h' : Heap} {c P : Addr} {ps : Array Value} (x : h.TableAt c P ps) (hc : ∀ o, h.get? c = some o → h'.get? c = some o) (hP : ∀ o, h.get? P = some o → h'.get? P = some o) : h'.TableAt c P ps :=
  let ⟨⟨o, vs, e, r⟩, t⟩ := x; ⟨⟨o, vs, hc _ e, r⟩, hP _ t⟩

def topoE : Expr := match topoD.body with
  | [_, .Assign _ e _, _, _, _, _, _] => e
  | _ => .Constant .none 0 ⟨0, 0, 0, 0⟩
def pos1 : Pos := match topoE with
  | .Call _ [.GeneratorExp _ _ _ pos] _ _ => pos
  | _ => ⟨0, 0, 0, 0⟩

set_option maxHeartbeats 4000000 in
theorem topo_sets {L a c P R CC : Addr} {ps : Array Value} {rd : List (Int × Addr × List Int)} {mg mb : Str → Option Value} {Q : Value → Shared → Prop}
    (hh : A.handled = none) (hroom : A.depth < recursionLimit) (hCC : CC = L + 1) (hcell : s.heap.IsCell CC (some (.ref R)))
    (hR : TDict prog w s.heap R rd) (hRs : sysModules < R) (hsz : ∀ x ∈ rd, x.2.2.length < 900) (hszd : rd.length < 900)
    (G : Gl mg mb s.heap) (B : BM s.heap mg) (hset : mg "set" = none) (hdict : mg "dict" = none)
    (hok : s.heap.IsCode c P ps) (htab : s.heap.TableAt c P ps) (hnf : codeAmong pos1 ps.toList = none) (hbare : AllBare s.gens)
    (h : ∀ h' tok gens' D sd c', Fm [P] s.heap h' → s.heap.get? D = none → SDict prog w h' D sd → sd.map (·.1) = rd.map (·.1) → (∀ y ∈ sd, ∃ x ∈ rd, x.1 = y.1 ∧ ∀ k, k ∈ y.2.2 ↔ k ∈ x.2.2) →
      (sd.map (·.2.1)).Nodup → (∀ y ∈ sd, y.2.1 ≠ D ∧ s.heap.get? y.2.1 = none) → h'.IsCode c P (ps ++ #[rawInt pos1.line, rawInt pos1.col, .ref c']) → h'.TableAt c P (ps ++ #[rawInt pos1.line, rawInt pos1.col, .ref c']) → AllBare gens' →
      sysModules < D → Q (.ref D) { s with heap := h', toks := tok, gens := gens' }) :
    wpAny (model prog w) A (eval topoE (envOfC topoD.name topoD.scope L a (.ref c))) Q E s := by
  refine Call_ (nm_built G hdict (by rfl) ?_)
  refine PyProof.Rows.callWith_type1 (PyProof.Rows.args_cons ?_)
  refine GenExp_pairs hh (by rfl) (cl := []) (by rfl) (by decide) (by rfl) (by rfl) (by rfl) (by decide) (by rfl) hroom ?_ (fun _ => rfl)
  refine wpAny_Call_items (ne_sys hRs) hR.1 (by rfl) (by rfl) (fun Q' hQ' => nm_cell (c := CC) (by rw [hCC]; rfl) hcell hQ') ?_
  -- the items view and its iterator
  have hRlive := DictOf_live hR.1
  generalize hV : ({ cls := .type "dict_items", data := .fields #[.ref R] } : Obj) = ov
  have hview : (s.heap.push ov).IsItemsView s.heap.objs.size R := ⟨ov, Heap.get?_push_size _ (by rw [← hV]; rfl), by rw [← hV], by rw [← hV]⟩
  obtain ⟨ep, hat⟩ := (hR.1.push ov).dictAt
  refine wpAny_pyIter_items hview hat ?_
  dsimp only
  have k₁ : ∀ b o, s.heap.get? b = some o → (s.heap.push ov).get? b = some o := fun b o e => Heap.get?_push_of_some _ e
  generalize (s.heap.push ov) = h₁ at hview hat k₁ ⊢
  generalize hIo : ({ cls := .type "dict_itemiterator", data := .fields #[.none, .bool false, .ref R, .int 0 0, .int ((rd.map fun x => (x.1, Value.ref x.2.1)).length) 0, .int ep 0, .none, .none] } : Obj) = io
  have hIi : IsItemIter (h₁.push io) h₁.objs.size R 0 (rd.map fun x => (x.1, Value.ref x.2.1)).length ep .none .none := by
    have : (h₁.push io).get? h₁.objs.size = some io := Heap.get?_push_size _ (by rw [← hIo]; rfl)
    rw [← hIo] at this ⊢; exact this
  have hIn : h₁.get? h₁.objs.size = none := get_size h₁
  generalize h₁.objs.size = I at hIi hIn ⊢
  have hat₂ := hat.push io
  have k₂ : ∀ b o, s.heap.get? b = some o → (h₁.push io).get? b = some o := fun b o e => Heap.get?_push_of_some _ (k₁ b o e)
  have hIs : s.heap.get? I = none := by
    cases q : s.heap.get? I with
    | none => rfl
    | some o => rw [k₁ _ _ q] at hIn; cases hIn
  generalize (h₁.push io) = h₂ at hIi hat₂ k₂ ⊢
  have htab₂ := htab.keeps k₂
  refine ⟨G.nl.keeps k₂, ?_⟩
  refine wpAny_genexprCodeX (s := { s with heap := h₂ }) (c := c) (P := P) (ps := ps) (by rfl) (hok.keeps k₂) htab₂ hnf fun c' h₃ tk₃ hx hc1 hc2 hok₃ _ htab₃ _ => ?_
  replace hx : Heap.ExtBut P h₂ h₃ := hx
  have f₃ : Fm [P] s.heap h₃ := fun b o hb e => hx b o (by simpa using hb) (k₂ b o e)
  have G₃ : Gl mg mb h₃ := G.off htab f₃
  refine (B.off htab f₃).for G₃ ?_
  dsimp only
  have hRP : R ≠ P := dict_off htab hR.1
  have hPlive : ∃ o, s.heap.get? P = some o := ⟨_, htab.2⟩
  have hIP : I ≠ P := fun q => by obtain ⟨o, e⟩ := hPlive; rw [← q, hIs] at e; cases e
  have hIi₃ : IsItemIter h₃ I R 0 (rd.map fun x => (x.1, Value.ref x.2.1)).length ep .none .none := hx I _ hIP hIi
  have hat₃ : h₃.DictAt (intKind prog w) R (rd.map fun x => (x.1, Value.ref x.2.1)) ep := hat₂.at' fun o e => hx R o hRP e
  have hRI : R ≠ I := ne_of_get' hRlive hIs
  have hT₃ : TDict prog w h₃ R rd := hR.fm f₃ (by simpa using hRP) fun x hx => let ⟨_, h1, _⟩ := hR.2 x hx; by simpa using tup_off htab h1
  generalize hC : h₃.objs.size = C
  have hCn : h₃.get? C = none := hC ▸ get_size h₃
  have hIC : I ≠ C := ne_of_get hIi₃ hCn
  -- what each yielded pair is
  refine ⟨I, _, _, _, _, _, _, fun i v hm h1 => ∃ T S t ks x, rd[i]? = some x ∧ v = .ref T ∧ IsTup h1 T #[.int x.1 t, .ref S] ∧ SetL w h1 S ks ∧ (∀ k, k ∈ ks ↔ k ∈ x.2.2) ∧ hm.get? S = none ∧ S ≠ C ∧ S ≠ I,
    rfl, fun A' hA => WalksU.dictItems (knd := intKind prog w) hA I R hRI (rd.map fun x => (x.1, Value.ref x.2.1)) ep, ?_, ⟨⟨_, _, hIi₃⟩, hat₃⟩, ?_, G₃.nl, ?_, ?_, ?_⟩
  · rintro i vals ⟨key, k, x, _, _, rfl⟩; exact ⟨_, _, rfl⟩
  · intro b hb
    simp only [List.mem_cons, List.not_mem_nil, or_false] at hb
    rcases hb with rfl | rfl
    · exact hC ▸ Heap.lt_size hIi₃
    · exact hC ▸ hat₃.lt_size
  · simp only [List.mem_cons, List.not_mem_nil, or_false]
    obtain ⟨mc, hmc, _⟩ := G.nl
    exact ne_of_get' (Ns_live hmc) hIs
  · -- one pair: (k, set(val))
    rintro A' E' i va vb s₂ m₂ hA hi ⟨key, k, x, hx0, hkey, hvals⟩ ⟨⟨ok, ov', hst1⟩, hst2⟩ hn₂ hma hmb hkp
    rw [List.getElem?_map, Option.map_eq_some_iff] at hx0
    obtain ⟨y, hy, hye⟩ := hx0
    cases hye
    obtain ⟨ty, rfl⟩ := Value.isInt_shape hkey
    have e1 : va = .int y.1 ty := by injection hvals with q; injection q
    have e2 : vb = .ref y.2.1 := by injection hvals with q; injection q with _ q; injection q
    subst e1; subst e2
    have hyr : y ∈ rd := List.mem_of_getElem? hy
    obtain ⟨vs, hT, hvs⟩ := hT₃.2 y hyr
    have hyI : y.2.1 ≠ I := by
      obtain ⟨_, hT0, _⟩ := hR.2 y hyr
      exact ne_of_get' (IsTup_live hT0) hIs
    have hT' : IsTup s₂.heap y.2.1 vs.toArray := IsTup_at hT fun o e => hkp _ (by simpa using hyI) o e
    have hG₂ : Gl mg mb s₂.heap := by
      obtain ⟨mc, hmc, hmc2⟩ := G.nl
      refine ⟨G₃.g.at' fun o e => hkp _ (by simpa using ne_of_get' (Ns_live G.g) hIs) o e, G₃.b.at' fun o e => hkp _ (by simpa using ne_of_get' (Ns_live G.b) hIs) o e, ?_, G₃.bt⟩
      obtain ⟨mc3, hmc3, h3⟩ := G₃.nl
      exact ⟨mc3, hmc3.at' fun o e => hkp _ (by simpa using ne_of_get' (Ns_live hmc) hIs) o e, h3⟩
    refine wpAny_Tuple (wpAny_items_cons (nm_loc hn₂ hma (wpAny_items_cons ?_)))
    refine Call_ (nm_built hG₂ hset (by rfl) ?_)
    refine PyProof.Rows.callWith_type1 (PyProof.Rows.args_cons (nm_loc hn₂ hmb (PyProof.Rows.args_nil ?_)))
    refine call_set_tup hA hT' hvs (hsz y hyr) fun h' tk ks hk hS hks htk => ?_
    refine wpAny_items_nil ⟨by rw [sizeLine_eq]; simp, ?_⟩
    refine ⟨⟨_, _, ty, ks, y, hy, rfl, ⟨_, Heap.get?_push_size _ rfl, rfl, _, rfl⟩, hS.at fun o e => Heap.get?_push_of_some _ e, hks, get_size _, ?_, ?_⟩, _, _, rfl, fun b o e => Heap.get?_push_of_some _ (hk b o e)⟩
    · exact Ne.symm (ne_of_get' (Ns_live hn₂) (get_size _))
    · exact Ne.symm (ne_of_get hst1 (get_size _))
  · -- the dict is made of them
    intro a₁ h₅ tk₅ gs og vsg hgb hCa hsz5 k₅ hog hogc hogd hogv W St0
    refine PyProof.Rows.args_nil ?_
    refine call_dict_H hh hog hogc hogd hogv fun h₆ tk₆ hk₆ htk₆ => ?_
    dsimp only at k₅ hCa hk₆ W St0 ⊢
    have hpush : ∀ b o, h₅.get? b = some o → h₆.get? b = some o := fun b o e => hk₆ b o (Heap.get?_push_of_some _ e)
    have hDobj : h₆.get? h₅.objs.size = some { cls := .type "dict", data := .dict #[] } := hk₆ _ _ (Heap.get?_push_size _ rfl)
    have hDn : h₅.get? h₅.objs.size = none := get_size h₅
    have hDa : a₁ < h₅.objs.size := by omega
    generalize h₅.objs.size = D at hDobj hDn hDa ⊢
    have ltC : ∀ (b : Nat) o, h₃.get? b = some o → b < C := fun b o e => hC ▸ Heap.lt_size e
    have hDC : D ≠ C := by omega
    have hIlt : @LT.lt Nat _ I C := ltC _ _ hIi₃
    have hDI : D ≠ I := by omega
    have hD₃ : h₃.get? D = none := by
      cases q : h₃.get? D with
      | none => rfl
      | some o => rw [k₅ _ _ q] at hDn; cases hDn
    have hDs : s.heap.get? D = none := by
      cases q : s.heap.get? D with
      | none => rfl
      | some o =>
        have hDP : D ≠ P := fun e => by
          obtain ⟨o, e'⟩ := hPlive
          have := ltC P _ htab₃.2
          omega
        rw [f₃ D o (by simpa using hDP) q] at hD₃; cases hD₃
    have hsys : sysModules < D := by
      obtain ⟨_, e⟩ := DictOf_live hT₃.1
      exact Nat.lt_trans hRs (Nat.lt_trans (ltC _ _ e) (Nat.lt_trans hCa hDa))
    have St6 := W.frame 0 _ h₆ tk₆ St0 htk₆ (fun b _ o e => hpush b o e)
    refine wpAny_pyIter_gen (g := s.gens.size) St6.1 ?_
    refine loop_dict (WalkH.of_in1 (WalkH.of_in1 W)) (d := D) (by simp only [List.mem_cons, List.mem_range, not_or]; exact ⟨Nat.ne_of_gt hDa, hDC, Nat.not_lt.mpr (Nat.le_of_lt (Nat.lt_trans hCa hDa))⟩)
      (fun i s' => AllBare s'.gens ∧ s'.drawn = s.drawn ∧ s'.os = s.os ∧ Fm [C, I] h₃ s'.heap ∧ ∃ sd, SDict prog w s'.heap D sd ∧ sd.map (·.1) = (rd.take i).map (·.1) ∧ (∀ y ∈ sd, ∃ x ∈ rd, x.1 = y.1 ∧ ∀ k, k ∈ y.2.2 ↔ k ∈ x.2.2) ∧
        (sd.map (·.2.1)).Nodup ∧ ∀ y ∈ sd, y.2.1 ∉ [D, C, I] ∧ h₃.get? y.2.1 = none) ?_ ?_ _ 0 _ rfl (Nat.zero_le _) St6 ?_
    · rintro i v s₁ s₂ hi ⟨j1, j2, j3, j4, sd, j5, j6, j7, j8, j9⟩ ⟨hm, ⟨T, S, t, ks, x, hx1, rfl, hT, hS, hks, hSn, hSC, hSI⟩, hkm⟩ hmv
      have hDm : ∃ o, hm.get? D = some o := let ⟨o, e⟩ := DictOf_live j5.1; ⟨o, hkm D o hDC (by simpa using hDI) e⟩
      have hSD : S ≠ D := Ne.symm (ne_of_get' hDm hSn)
      have hSj : ∀ y ∈ sd, y.2.1 ≠ S := fun y hy => by
        obtain ⟨o, e⟩ := (j5.2 y hy).live
        have hy9 := (j9 y hy).1
        simp only [List.mem_cons, List.not_mem_nil, or_false, not_or] at hy9
        exact ne_of_get (hkm _ o hy9.2.1 (by simpa using hy9.2.2) e) hSn
      have hS₃ : h₃.get? S = none := by
        cases q : h₃.get? S with
        | none => rfl
        | some o => rw [hkm S o hSC (by simpa using hSI) (j4 S o (by simp [hSC, hSI]) q)] at hSn; cases hSn
      have hD₂ : s₂.heap.DictOf (intKind prog w) D (sd.map fun x => (x.1, Value.ref x.2.1)) := DictOf_at j5.1 fun o e => hmv.heap D o (by simp [hDC, hDI]) e
      have hsdl : sd.length = i := by
        have := congrArg List.length j6
        rw [List.length_map, List.length_map, List.length_take] at this
        have : i < rd.length := (List.getElem?_eq_some_iff.mp hx1).1
        omega
      have hilt : i < rd.length := (List.getElem?_eq_some_iff.mp hx1).1
      have hnew : x.1 ∉ sd.map (·.1) := by
        rw [j6]
        intro q
        have hnd := hR.nodup
        rw [← List.take_append_drop i rd, List.map_append, List.nodup_append] at hnd
        refine hnd.2.2 _ q _ ?_ rfl
        rw [List.drop_eq_getElem_cons hilt, List.map_cons, (List.getElem?_eq_some_iff.mp hx1).2]
        exact List.mem_cons_self
      refine ⟨x.1, t, .ref S, _, T, rfl, hT, hD₂, by rw [List.length_map, sizeLine_eq]; omega, fun h' tk htk hd' hs' => ⟨hmv.gens.bare j1, hmv.drawn.trans j2, hmv.os.trans j3, ?_, sd ++ [(x.1, S, ks)], ⟨?_, ?_⟩, ?_, ?_, ?_, ?_⟩⟩
      · exact fun b o hb e => hs'.extBut b o (ne_of_get e hD₃) (hmv.heap b o (by simpa using hb) (j4 b o hb e))
      · rw [show stored (sd.map fun x => (x.1, Value.ref x.2.1)) x.1 (.ref S) = (rput sd x.1 (S, ks)).map fun x => (x.1, Value.ref x.2.1) from stored_map (fun x : Addr × List Int => Value.ref x.1) sd x.1 (S, ks), rput_new hnew] at hd'
        exact hd'
      · intro y hy
        rcases List.mem_append.mp hy with hy | hy
        · have hy9 := (j9 y hy).1
          simp only [List.mem_cons, List.not_mem_nil, or_false, not_or] at hy9
          exact (j5.2 y hy).at fun o e => hs'.extBut _ o hy9.1 (hmv.heap _ o (by simp [hy9.2.1, hy9.2.2]) e)
        · rw [List.mem_singleton.mp hy]
          exact hS.at fun o e => hs'.extBut _ o hSD e
      · rw [List.map_append, j6, List.take_add_one, hx1, List.map_append]; rfl
      · intro y hy
        rcases List.mem_append.mp hy with hy | hy
        · exact j7 y hy
        · rw [List.mem_singleton.mp hy]
          exact ⟨x, List.mem_of_getElem? hx1, rfl, hks⟩
      · rw [List.map_append, List.nodup_append]
        refine ⟨j8, by simp, fun u hu v hv => ?_⟩
        obtain ⟨y, hy, rfl⟩ := List.mem_map.mp hu
        simp only [List.map_cons, List.map_nil, List.mem_singleton] at hv
        rw [hv]; exact hSj y hy
      · intro y hy
        rcases List.mem_append.mp hy with hy | hy
        · exact j9 y hy
        · rw [List.mem_singleton.mp hy]
          exact ⟨by simp [hSD, hSC, hSI], hS₃⟩
    · rintro s₁ s₂ ⟨j1, j2, j3, j4, sd, j5, j6, j7, j8, j9⟩ hmv
      rw [List.length_map, List.take_length] at j6
      have f2 : Fm [C, I] h₃ s₂.heap := fun b o hb e => hmv.heap b o (by simpa using hb) (j4 b o hb e)
      have hcC : c ≠ C := by obtain ⟨o, e⟩ := isCode_live hok₃; exact Nat.ne_of_lt (ltC _ _ e)
      have hcI : c ≠ I := ne_of_get' (isCode_live hok) hIs
      have hPC : P ≠ C := Nat.ne_of_lt (ltC _ _ htab₃.2)
      have fcP : ∀ b, b ≠ C → b ≠ I → ∀ o, h₃.get? b = some o → s₂.heap.get? b = some o := fun b hb1 hb2 o e => f2 b o (by simp [hb1, hb2]) e
      have := h s₂.heap s₂.toks s₂.gens D sd c' (fun b o hb e => ?_) hDs ⟨DictOf_at j5.1 fun o e => hmv.heap D o (by simp [hDC, hDI]) e, fun y hy => ?_⟩ j6 j7 j8 (fun y hy => ⟨fun q => (j9 y hy).1 (by simp [q]), ?_⟩)
        (isCode_at hok₃ (fcP c hcC hcI) (fcP P hPC (Ne.symm hIP))) (tabAt_at htab₃ (fcP c hcC hcI) (fcP P hPC (Ne.symm hIP))) (hmv.gens.bare j1) hsys
      · obtain ⟨hp2, g2, d2, t2, o2⟩ := s₂
        obtain rfl : d2 = s.drawn := hmv.drawn.trans j2
        obtain rfl : o2 = s.os := hmv.os.trans j3
        exact ⟨rfl, this⟩
      · exact fcP b (Nat.ne_of_lt (ltC _ _ (f₃ b o hb e))) (ne_of_get e hIs) o (f₃ b o hb e)
      · have hy9 := (j9 y hy).1
        simp only [List.mem_cons, List.not_mem_nil, or_false, not_or] at hy9
        exact (j5.2 y hy).at fun o e => hmv.heap _ o (by simp [hy9.2.1, hy9.2.2]) e
      · cases q : s.heap.get? y.2.1 with
        | none => rfl
        | some o =>
          have hyP : y.2.1 ≠ P := fun e => by have := (j9 y hy).2; rw [e, htab₃.2] at this; cases this
          exact absurd (f₃ _ o (by simpa using hyP) q) (by rw [(j9 y hy).2]; nofun)
    · refine ⟨?_, rfl, rfl, fun b o hb e => hpush b o (k₅ b o e), [], ⟨⟨_, #[], 0, hDobj, ⟨rfl, rfl, rfl⟩, rfl, fun _ he => by simp at he, .nil, .nil⟩, fun _ hx => (nomatch hx)⟩, by simp, fun _ hx => (nomatch hx), .nil, fun _ hx => (nomatch hx)⟩
      intro y hy
      rcases Array.mem_push.mp hy with hy | rfl
      · exact hbare y hy
      · exact hgb
end
end Mine
end

-- part D8
section
open PySem PySem.W PyProof.Rows PySem.Calls
set_option maxRecDepth 100000
namespace Mine
section
variable {prog : Program} {w : World} {A : Around} {E : Value → Shared → Prop} {s : Shared}

set_option maxHeartbeats 4000000 in
theorem gen_edges {L a c P d : Addr} {ps : Array Value} {g : List (Int × Addr × List Int)} {mg mb m : Str → Option Value} {elt : Expr} {ifs : List Expr} {scope : Scope} {pos px pi : Pos} {pz : Nat → Bool} {F : Nat → Value → Prop}
    {Q : Value → Shared → Prop} (hh : A.handled = none) (hroom : A.depth < recursionLimit) (hco : scope.isCoroutine = false) (hclos : closureFor scope (envOfC topoD.name topoD.scope L a (.ref c)) = pure [(("incoming_edges" : Str), (L + 1 : Addr))])
    (hcell : ∀ y ∈ scope.names, y.2 ≠ .cell) (h0 : scope.names.lookup (".0" : Str) = some NameKind.local) (hx : scope.names.lookup ("v" : Str) = some .local) (hkind : scope.kind = .function)
    (hn : s.heap.Ns L m) (hmd : m "edges" = some (.ref d)) (hd : LDict prog w s.heap d g) (hds : sysModules < d)
    (G : Gl mg mb s.heap) (B : BM s.heap mg) (hok : s.heap.IsCode c P ps) (htab : s.heap.TableAt c P ps) (hnf : codeAmong pos ps.toList = none)
    (hq : ∀ (A' : Around) E' C code (s₂ : Shared) m₂ i x t, A'.handled = none → g[i]? = some x → s₂.heap.Ns C m₂ → m₂ "v" = some (.int x.1 t) → (∀ b o, b ≠ P → s.heap.get? b = some o → s₂.heap.get? b = some o) →
      wpAny (model prog w) A' (tests ifs (genEnv scope [(("incoming_edges" : Str), (L + 1 : Addr))] C code builtinsNs (envOfC topoD.name topoD.scope L a (.ref c)))) (fun ok s₃ => ok = pz i ∧ Keeps s₂ s₃) E' s₂ ∧
      (pz i = true → wpAny (model prog w) A' (eval elt (genEnv scope [(("incoming_edges" : Str), (L + 1 : Addr))] C code builtinsNs (envOfC topoD.name topoD.scope L a (.ref c)))) (fun y s₃ => F i y ∧ Keeps s₂ s₃) E' s₂))
    (h : ∀ (a₁ C I : Nat) h₃ h₅ tk₅ gs c' St, gs.bare = true → C = h₃.objs.size → C < a₁ → h₅.objs.size = a₁ + 1 → (∀ b o, h₃.get? b = some o → h₅.get? b = some o) → Fm [P] s.heap h₃ → I < C → s.heap.get? I = none →
      h₃.IsCode c P (ps ++ #[rawInt pos.line, rawInt pos.col, .ref c']) → h₃.TableAt c P (ps ++ #[rawInt pos.line, rawInt pos.col, .ref c']) →
      WalkH prog w A.in4 a₁ (a₁ :: C :: List.range C) [C, I] (GenOnlyQ s.gens.size) (passing pz g.length 0).length (fun j y _ _ => ∃ i, (passing pz g.length 0)[j]? = some i ∧ F i y) St →
      St 0 { s with heap := h₅, toks := tk₅, gens := s.gens.push gs } → (∀ i s', St i s' → s'.heap.IsGen a₁ s.gens.size) → Q (.ref a₁) { s with heap := h₅, toks := tk₅, gens := s.gens.push gs }) :
    wpAny (model prog w) A (eval (.GeneratorExp elt [⟨.Name "v" px, .Name "edges" pi, ifs, 0⟩] scope pos) (envOfC topoD.name topoD.scope L a (.ref c))) Q E s := by
  refine wpAny_GeneratorExp_walksQD hh hco hclos hcell h0 hx hkind hroom ?_ (fun _ => rfl)
  refine nm_loc hn hmd ?_
  obtain ⟨ep, hat⟩ := hd.1.dictAt
  refine wpAny_pyIter_dict (ne_sys hds) hat ?_
  dsimp only
  have hdlive := DictOf_live hd.1
  generalize hIo : ({ cls := .type "dict_keyiterator", data := .fields #[.ref d, .int 0 0, .int ((g.map fun x => (x.1, Value.ref x.2.1)).length) 0, .int ep 0] } : Obj) = io
  have hIi : (s.heap.push io).get? s.heap.objs.size = some io := Heap.get?_push_size _ (by rw [← hIo]; rfl)
  have hIs : s.heap.get? s.heap.objs.size = none := get_size s.heap
  generalize s.heap.objs.size = I at hIi hIs ⊢
  have k₂ : ∀ b o, s.heap.get? b = some o → (s.heap.push io).get? b = some o := fun b o e => Heap.get?_push_of_some _ e
  have hat₂ := hat.push io
  generalize (s.heap.push io) = h₂ at hIi hat₂ k₂ ⊢
  refine ⟨G.nl.keeps k₂, ?_⟩
  refine wpAny_genexprCodeX (s := { s with heap := h₂ }) (c := c) (P := P) (ps := ps) (by rfl) (hok.keeps k₂) (htab.keeps k₂) hnf fun c' h₃ tk₃ hx3 hc1 hc2 hok₃ _ htab₃ _ => ?_
  replace hx3 : Heap.ExtBut P h₂ h₃ := hx3
  have f₃ : Fm [P] s.heap h₃ := fun b o hb e => hx3 b o (by simpa using hb) (k₂ b o e)
  have G₃ : Gl mg mb h₃ := G.off htab f₃
  refine (B.off htab f₃).for G₃ ?_
  dsimp only
  have hPlive : ∃ o, s.heap.get? P = some o := ⟨_, htab.2⟩
  have hdP : d ≠ P := dict_off htab hd.1
  have hIP : I ≠ P := fun q => by obtain ⟨o, e⟩ := hPlive; rw [← q, hIs] at e; cases e
  have hIi₃ : h₃.get? I = some io := hx3 I _ hIP hIi
  have hdI : d ≠ I := ne_of_get' hdlive hIs
  have hat₃ : h₃.DictAt (intKind prog w) d (g.map fun x => (x.1, Value.ref x.2.1)) ep := hat₂.at' fun o e => hx3 d o hdP e
  have hlen : (g.map fun x => (x.1, Value.ref x.2.1)).length = g.length := by simp
  generalize hC : h₃.objs.size = C
  have ltC : ∀ (b : Nat) o, h₃.get? b = some o → b < C := fun b o e => hC ▸ Heap.lt_size e
  refine ⟨I, _, _, _, _, _, pz, F, rfl, fun A' hA => Walks.dictKeys (knd := intKind prog w) (by exact hA) I d hdI (g.map fun x => (x.1, Value.ref x.2.1)) ep, ⟨⟨io, hIi₃, by rw [← hIo]; exact ⟨rfl, rfl⟩⟩, hat₃⟩, ?_, G₃.nl, ?_, ?_, ?_⟩
  · intro b hb
    simp only [List.mem_cons, List.not_mem_nil, or_false] at hb
    rcases hb with q | q
    · rw [q]; exact ltC _ _ hIi₃
    · rw [q]
      obtain ⟨o, e⟩ := DictOf_live hd.1
      exact ltC _ _ (f₃ d o (by simpa using hdP) e)
  · simp only [List.mem_cons, List.not_mem_nil, or_false]
    obtain ⟨mc, hmc, _⟩ := G.nl
    exact ne_of_get' (Ns_live hmc) hIs
  · intro href hk
    have key : ∀ (s₂ : Shared), (∀ b ∈ List.range C, b ∉ [I] → ∀ o, href.get? b = some o → s₂.heap.get? b = some o) → ∀ b o, b ≠ P → s.heap.get? b = some o → s₂.heap.get? b = some o := fun s₂ hkp b o hb e => by
      have e3 := f₃ b o (by simpa using hb) e
      exact hkp b (List.mem_range.mpr (ltC b o e3)) (by simpa using ne_of_get e hIs) o (hk b o e3)
    refine ⟨fun A' E' i v s₂ m₂ hA _ _ hP hn₂ hm₂ hkp => ?_, fun A' E' i v s₂ m₂ hA _ _ hP hpz hn₂ hm₂ hkp => ?_⟩
    all_goals
      obtain ⟨k, kv, hkv, hvk⟩ := hP
      obtain ⟨tkk, rfl⟩ := Value.isInt_shape hvk
      rw [List.getElem?_map, Option.map_eq_some_iff] at hkv
      obtain ⟨x, hx1, hxe⟩ := hkv
      cases hxe
    · exact (hq A' E' C (.ref c') s₂ m₂ i x tkk hA hx1 hn₂ hm₂ (key s₂ hkp)).1
    · exact (hq A' E' C (.ref c') s₂ m₂ i x tkk hA hx1 hn₂ hm₂ (key s₂ hkp)).2 hpz
  · intro a₁ h₅ tk₅ gs hgb hCa hsz5 k₅ W St0
    rw [hlen] at W St0
    exact h a₁ C I h₃ h₅ tk₅ gs c' _ hgb hC.symm hCa hsz5 k₅ f₃ (ltC _ _ hIi₃) hIs hok₃ htab₃ (WalkH.ofS W) St0 fun i s' st => st.1
end
end Mine
end

-- part D9
section
open PySem PySem.W PyProof.Rows PySem.Calls
set_option maxRecDepth 100000
namespace Mine
section
variable {prog : Program} {w : World} {A : Around} {E : Value → Shared → Prop} {s : Shared}

def rootsE : Expr := match topoD.body with
  | [_, _, .Assign _ e _, _, _, _, _] => e
  | _ => .Constant .none 0 ⟨0, 0, 0, 0⟩
def pos2 : Pos := match rootsE with
  | .Call _ [.GeneratorExp _ _ _ pos] _ _ => pos
  | _ => ⟨0, 0, 0, 0⟩
def anyE : Expr := match topoD.body with
  | [_, _, _, _, _, .If e _ _ _, _] => e
  | _ => .Constant .none 0 ⟨0, 0, 0, 0⟩
def pos3 : Pos := match anyE with
  | .Call _ [.GeneratorExp _ _ _ pos] _ _ => pos
  | _ => ⟨0, 0, 0, 0⟩

theorem passing_zero (pz : Nat → Bool) (n : Nat) : passing pz n 0 = (List.range n).filter pz := by unfold passing; rw [List.drop_zero]
theorem isSome_keys {α : Type} (f : α → Value) (sd : List (Int × α)) (k : Int) : (valueAt (sd.map fun x => (x.1, f x.2)) k).isSome = decide (k ∈ sd.map (·.1)) := by
  rw [valueAt_map f]
  by_cases q : k ∈ sd.map (·.1)
  · obtain ⟨a, ha⟩ := rget_some_of q
    rw [ha]; simp [q]
  · cases e : rget sd k with
    | none => simp [q]
    | some a => exact absurd (List.mem_map_of_mem (rget_mem e)) q

set_option maxHeartbeats 4000000 in
theorem topo_roots {L a c P d D : Addr} {ps : Array Value} {g sd : List (Int × Addr × List Int)} {mg mb m : Str → Option Value}
    {Q : Value → Shared → Prop} (hh : A.handled = none) (hroom : A.depth < recursionLimit)
    (hn : s.heap.Ns L m) (hmd : m "edges" = some (.ref d)) (hd : LDict prog w s.heap d g) (hds : sysModules < d) (hgl : g.length < 900)
    (hcell : s.heap.IsCell (L + 1) (some (.ref D))) (hD : SDict prog w s.heap D sd) (hDs : sysModules < D)
    (G : Gl mg mb s.heap) (B : BM s.heap mg) (hset : mg "set" = none) (hok : s.heap.IsCode c P ps) (htab : s.heap.TableAt c P ps) (hnf : codeAmong pos2 ps.toList = none) (hbare : AllBare s.gens)
    (h : ∀ h' tok gens' S ks c', Fm [P] s.heap h' → s.heap.get? S = none → SetL w h' S ks → (∀ k, k ∈ ks ↔ k ∈ g.map (·.1) ∧ k ∉ sd.map (·.1)) → h'.IsCode c P (ps ++ #[rawInt pos2.line, rawInt pos2.col, .ref c']) → h'.TableAt c P (ps ++ #[rawInt pos2.line, rawInt pos2.col, .ref c']) → AllBare gens' →
      Q (.ref S) { s with heap := h', toks := tok, gens := gens' }) :
    wpAny (model prog w) A (eval rootsE (envOfC topoD.name topoD.scope L a (.ref c))) Q E s := by
  have hcP : L + 1 ≠ P := cell_off htab hcell
  have hDP : D ≠ P := dict_off htab hD.1
  refine Call_ (nm_built G hset (by rfl) ?_)
  refine PyProof.Rows.callWith_type1 (PyProof.Rows.args_cons ?_)
  refine gen_edges (pos := pos2) (pz := fun i => decide (((g.map (·.1)).getD i 0) ∉ sd.map (·.1))) (F := fun i y => ∃ t, y = .int ((g.map (·.1)).getD i 0) t) hh hroom (by rfl) (by rfl) (by decide) (by rfl) (by rfl) (by rfl) hn hmd hd hds G B hok htab hnf ?_ ?_
  · intro A' E' C code s₂ m₂ i x t hA hx hn₂ hm₂ hk
    have hxe : (g.map (·.1)).getD i 0 = x.1 := by rw [List.getD_eq_getElem?_getD, List.getElem?_map, hx]; rfl
    have hc2 : s₂.heap.IsCell (L + 1) (some (.ref D)) := let ⟨o, ho, hdt⟩ := hcell; ⟨o, hk _ o hcP ho, hdt⟩
    have hD2 := DictOf_at hD.1 fun o e => hk D o hDP e
    refine ⟨tests_one (wpAny_isTrue_Compare1 (nm_loc hn₂ hm₂ (nm_free (c := L + 1) (by rfl) hc2 ?_))), fun _ => nm_loc hn₂ hm₂ ⟨⟨t, by rw [hxe]⟩, s₂.heap, s₂.toks, rfl, fun _ _ e => e⟩⟩
    refine wpAny_notIn_of (knd := intKind prog w) (intKind_is prog w x.1 t) (ne_sys hDs) hD2.mapOf ?_
    refine wpAny_truthy_bool ⟨?_, s₂.heap, s₂.toks + 1, rfl, fun _ _ e => e⟩
    rw [hxe, isSome_keys (fun x : Addr × List Int => Value.ref x.1)]
    by_cases q : x.1 ∈ sd.map (·.1) <;> simp [q]
  · intro a₁ C I h₃ h₅ tk₅ gs c' St hgb hC hCa hsz5 k₅ f₃ hIC hIs hok₃ htab₃ W St0 hgen
    refine PyProof.Rows.args_nil ?_
    have hg0 := hgen 0 _ St0
    refine call_set_H (T := "generator") hg0.typeIs F.sub_gen_set F.sub_gen_frozenset (by decide) fun led hS => ?_
    dsimp only at hS ⊢
    generalize hob : ({ cls := .type "set", dict := none, data := .set #[] 0 (.fresh 0 0 led) } : Obj) = ob at hS ⊢
    have hSn : h₅.get? h₅.objs.size = none := get_size h₅
    have hSa : a₁ < h₅.objs.size := by rw [hsz5]; exact Nat.lt_succ_self _
    generalize h₅.objs.size = S at hS hSn hSa ⊢
    have kp : ∀ b o, h₅.get? b = some o → (h₅.push ob).get? b = some o := fun b o e => Heap.get?_push_of_some _ e
    have St1 := W.frame 0 _ (h₅.push ob) tk₅ St0 (Nat.le_refl _) (fun b _ o e => kp b o e)
    generalize (h₅.push ob) = h₆ at hS kp St1 ⊢
    refine wpAny_pyIter_gen (g := s.gens.size) (hgen 0 _ St1) ?_
    have hSC : S ≠ C := Nat.ne_of_gt (Nat.lt_trans hCa hSa)
    have hSI : S ≠ I := Nat.ne_of_gt (Nat.lt_trans hIC (Nat.lt_trans hCa hSa))
    have hS₃ : h₃.get? S = none := by
      cases q : h₃.get? S with
      | none => rfl
      | some o => rw [k₅ _ _ q] at hSn; cases hSn
    have ltC : ∀ (b : Nat) o, h₃.get? b = some o → b < C := fun b o e => hC ▸ Heap.lt_size e
    have hSs : s.heap.get? S = none := by
      cases q : s.heap.get? S with
      | none => rfl
      | some o =>
        have hSP : S ≠ P := Nat.ne_of_gt (Nat.lt_trans (ltC P _ htab₃.2) (Nat.lt_trans hCa hSa))
        rw [f₃ S o (by simpa using hSP) q] at hS₃; cases hS₃
    generalize hpas : passing (fun i => decide (((g.map (·.1)).getD i 0) ∉ sd.map (·.1))) g.length 0 = pas at W
    have hpl : pas.length ≤ g.length := by
      rw [← hpas, passing_zero]
      exact Nat.le_trans (List.length_filter_le _ _) (by simp)
    refine loop_set (WalkH.of_in1 (A := A.in1.in1.in1) W) (S := S) (by simp only [List.mem_cons, List.mem_range, not_or]; exact ⟨Nat.ne_of_gt hSa, hSC, Nat.not_lt.mpr (Nat.le_of_lt (Nat.lt_trans hCa hSa))⟩)
      (fun i s' => AllBare s'.gens ∧ s'.drawn = s.drawn ∧ s'.os = s.os ∧ Fm [C, I] h₃ s'.heap ∧ ∃ ks, SetL w s'.heap S ks ∧ (∀ k, k ∈ ks ↔ ∃ j ∈ pas.take i, k = (g.map (·.1)).getD j 0) ∧ ks.length ≤ i) ?_ ?_ _ 0 _ rfl (Nat.zero_le _) St1 ?_
    · rintro i v s₁ s₂ hi ⟨j1, j2, j3, j4, ks, j5, j6, j7⟩ ⟨x, hx, t, rfl⟩ hmv
      have f2 : Fm [C, I] h₃ s₂.heap := fun b o hb e => hmv.heap b o (by simpa using hb) (j4 b o hb e)
      refine ⟨_, t, ks, rfl, j5.at fun o e => hmv.heap S o (by simp [hSC, hSI]) e, by omega, fun h' hs' hS' => ⟨hmv.gens.bare j1, hmv.drawn.trans j2, hmv.os.trans j3, fun b o hb e => hs'.extBut b o (ne_of_get e hS₃) (f2 b o hb e), _, hS', fun k => ?_, ?_⟩⟩
      · rw [List.take_add_one, hx]
        simp only [Option.toList_some, List.mem_append, List.mem_singleton]
        have e1 : (∃ j, (j ∈ pas.take i ∨ j = x) ∧ k = (g.map (·.1)).getD j 0) ↔ k ∈ ks ∨ k = (g.map (·.1)).getD x 0 := by
          rw [j6]
          constructor
          · rintro ⟨j, q | q, e⟩
            · exact .inl ⟨j, q, e⟩
            · exact .inr (q ▸ e)
          · rintro (⟨j, q, e⟩ | e)
            · exact ⟨j, .inl q, e⟩
            · exact ⟨x, .inr rfl, e⟩
        rw [e1]
        by_cases q : (g.map (·.1)).getD x 0 ∈ ks
        · rw [if_pos q]; exact ⟨.inl, fun z => z.elim id fun z => z ▸ q⟩
        · rw [if_neg q, List.mem_cons]; exact Or.comm
      · split
        · omega
        · simp only [List.length_cons]; omega
    · rintro s₁ s₂ ⟨j1, j2, j3, j4, ks, j5, j6, j7⟩ hmv
      rw [List.take_length] at j6
      have f2 : Fm [C, I] h₃ s₂.heap := fun b o hb e => hmv.heap b o (by simpa using hb) (j4 b o hb e)
      have hcC : c ≠ C := by obtain ⟨o, e⟩ := isCode_live hok₃; exact Nat.ne_of_lt (ltC _ _ e)
      have hcI : c ≠ I := ne_of_get' (isCode_live hok) hIs
      have hPC : P ≠ C := Nat.ne_of_lt (ltC _ _ htab₃.2)
      have hPI : P ≠ I := ne_of_get htab.2 hIs
      have fcP : ∀ b, b ≠ C → b ≠ I → ∀ o, h₃.get? b = some o → s₂.heap.get? b = some o := fun b hb1 hb2 o e => f2 b o (by simp [hb1, hb2]) e
      have := h s₂.heap s₂.toks s₂.gens S ks c' (fun b o hb e => fcP b (Nat.ne_of_lt (ltC _ _ (f₃ b o hb e))) (ne_of_get e hIs) o (f₃ b o hb e)) hSs (j5.at fun o e => hmv.heap S o (by simp [hSC, hSI]) e) (fun k => ?_)
        (isCode_at hok₃ (fcP c hcC hcI) (fcP P hPC hPI)) (tabAt_at htab₃ (fcP c hcC hcI) (fcP P hPC hPI)) (hmv.gens.bare j1)
      · obtain ⟨hp2, g2, d2, t2, o2⟩ := s₂
        obtain rfl : d2 = s.drawn := hmv.drawn.trans j2
        obtain rfl : o2 = s.os := hmv.os.trans j3
        exact this
      · rw [j6, ← hpas, passing_zero]
        constructor
        · rintro ⟨j, hj, rfl⟩
          rw [List.mem_filter, List.mem_range, decide_eq_true_eq] at hj
          refine ⟨?_, hj.2⟩
          rw [List.getD_eq_getElem?_getD, List.getElem?_eq_getElem (by simpa using hj.1)]
          exact List.getElem_mem _
        · rintro ⟨h1, h2⟩
          obtain ⟨j, hj, e⟩ := List.mem_iff_getElem.mp h1
          have e' : (g.map (·.1)).getD j 0 = k := by rw [List.getD_eq_getElem?_getD, List.getElem?_eq_getElem hj]; exact e
          exact ⟨j, List.mem_filter.mpr ⟨List.mem_range.mpr (by simpa using hj), by rw [e']; simpa using h2⟩, e'.symm⟩
    · refine ⟨?_, rfl, rfl, fun b o hb e => kp b o (k₅ b o e), [], hS, fun k => by simp, Nat.le_refl _⟩
      intro y hy
      rcases Array.mem_push.mp hy with hy | rfl
      · exact hbare y hy
      · exact hgb

def anyOf (g sd : List (Int × Addr × List Int)) (i : Nat) : Bool :=
  match rget sd ((g.map (·.1)).getD i 0) with
  | some (_, ks) => !ks.isEmpty
  | none => false

set_option maxHeartbeats 4000000 in
theorem topo_any {L a c P d D : Addr} {ps : Array Value} {g sd : List (Int × Addr × List Int)} {mg mb m : Str → Option Value}
    {Q : Value → Shared → Prop} (hh : A.handled = none) (hroom : A.depth < recursionLimit)
    (hn : s.heap.Ns L m) (hmd : m "edges" = some (.ref d)) (hd : LDict prog w s.heap d g) (hds : sysModules < d)
    (hcell : s.heap.IsCell (L + 1) (some (.ref D))) (hD : SDict prog w s.heap D sd) (hDs : sysModules < D)
    (G : Gl mg mb s.heap) (B : BM s.heap mg) (hany : mg "any" = none) (hok : s.heap.IsCode c P ps) (htab : s.heap.TableAt c P ps) (hnf : codeAmong pos3 ps.toList = none) (hbare : AllBare s.gens)
    (h : ∀ h' tok gens' b c', Fm [P] s.heap h' → (b = true ↔ ∃ x ∈ sd, x.1 ∈ g.map (·.1) ∧ x.2.2 ≠ []) → h'.IsCode c P (ps ++ #[rawInt pos3.line, rawInt pos3.col, .ref c']) → h'.TableAt c P (ps ++ #[rawInt pos3.line, rawInt pos3.col, .ref c']) → AllBare gens' →
      Q (.bool b) { s with heap := h', toks := tok, gens := gens' }) :
    wpAny (model prog w) A (eval anyE (envOfC topoD.name topoD.scope L a (.ref c))) Q E s := by
  have hcP : L + 1 ≠ P := cell_off htab hcell
  have hDP : D ≠ P := dict_off htab hD.1
  refine Call_ (nm_built G hany (by rfl) ?_)
  refine PyProof.Rows.callWith_builtin1 (PyProof.Rows.args_cons ?_)
  refine gen_edges (pos := pos3) (pz := fun _ => true) (F := fun i y => y = (valueAt (sd.map fun x => (x.1, Value.ref x.2.1)) ((g.map (·.1)).getD i 0)).getD .none) hh hroom (by rfl) (by rfl) (by decide) (by rfl) (by rfl) (by rfl) hn hmd hd hds G B hok htab hnf ?_ ?_
  · intro A' E' C code s₂ m₂ i x t hA hx hn₂ hm₂ hk
    have hxe : (g.map (·.1)).getD i 0 = x.1 := by rw [List.getD_eq_getElem?_getD, List.getElem?_map, hx]; rfl
    have hc2 : s₂.heap.IsCell (L + 1) (some (.ref D)) := let ⟨o, ho, hdt⟩ := hcell; ⟨o, hk _ o hcP ho, hdt⟩
    have hD2 := DictOf_at hD.1 fun o e => hk D o hDP e
    refine ⟨tests_nil ⟨rfl, s₂.heap, s₂.toks, rfl, fun _ _ e => e⟩, fun _ => ?_⟩
    refine wpAny_Call_method2_late (by rfl) (by rfl) (by rfl) ?_
    refine nm_free (c := L + 1) (by rfl) hc2 ?_
    refine get2_dict (ne_sys hDs) hD2 ?_
    refine nm_loc hn₂ hm₂ ?_
    refine wpAny_Constant_none ?_
    exact ⟨x.1, t, rfl, hD2, by rw [hxe], s₂.heap, s₂.toks + 1, rfl, fun _ _ e => e⟩
  · intro a₁ C I h₃ h₅ tk₅ gs c' St hgb hC hCa hsz5 k₅ f₃ hIC hIs hok₃ htab₃ W St0 hgen
    refine PyProof.Rows.args_nil ?_
    refine call_any_H ?_
    refine wpAny_pyIter_gen (g := s.gens.size) (hgen 0 _ St0) ?_
    have hpas : passing (fun _ => true) g.length 0 = List.range g.length := by rw [passing_zero, List.filter_eq_self.mpr (fun _ _ => rfl)]
    rw [hpas, List.length_range] at W
    have ltC : ∀ (b : Nat) o, h₃.get? b = some o → b < C := fun b o e => hC ▸ Heap.lt_size e
    have hcC : c ≠ C := by obtain ⟨o, e⟩ := isCode_live hok₃; exact Nat.ne_of_lt (ltC _ _ e)
    have hcI : c ≠ I := ne_of_get' (isCode_live hok) hIs
    have hPC : P ≠ C := Nat.ne_of_lt (ltC _ _ htab₃.2)
    have hPI : P ≠ I := ne_of_get htab.2 hIs
    have fin : ∀ b s₂, AllBare s₂.gens → s₂.drawn = s.drawn → s₂.os = s.os → Fm [C, I] h₃ s₂.heap → (b = true ↔ ∃ x ∈ sd, x.1 ∈ g.map (·.1) ∧ x.2.2 ≠ []) → Q (.bool b) s₂ := fun b s₂ j1 j2 j3 f2 hb => by
      have fcP : ∀ b, b ≠ C → b ≠ I → ∀ o, h₃.get? b = some o → s₂.heap.get? b = some o := fun b hb1 hb2 o e => f2 b o (by simp [hb1, hb2]) e
      have := h s₂.heap s₂.toks s₂.gens b c' (fun b o hb e => fcP b (Nat.ne_of_lt (ltC _ _ (f₃ b o hb e))) (ne_of_get e hIs) o (f₃ b o hb e)) hb
        (isCode_at hok₃ (fcP c hcC hcI) (fcP P hPC hPI)) (tabAt_at htab₃ (fcP c hcC hcI) (fcP P hPC hPI)) j1
      obtain ⟨hp2, g2, d2, t2, o2⟩ := s₂
      obtain rfl : d2 = s.drawn := j2
      obtain rfl : o2 = s.os := j3
      exact this
    have hone : ∀ i < g.length, anyOf g sd i = true → ∃ x ∈ sd, x.1 ∈ g.map (·.1) ∧ x.2.2 ≠ [] := fun i hi ht => by
      unfold anyOf at ht
      cases e : rget sd ((g.map (·.1)).getD i 0) with
      | none => rw [e] at ht; cases ht
      | some y =>
        rw [e] at ht
        refine ⟨_, rget_mem e, ?_, ?_⟩
        · show (g.map (·.1)).getD i 0 ∈ _
          rw [List.getD_eq_getElem?_getD, List.getElem?_eq_getElem (by simpa using hi)]
          exact List.getElem_mem _
        · intro q
          have : y.2 = [] := q
          simp [this] at ht
    refine loop_any (WalkH.of_in1 (WalkH.of_in1 (WalkH.of_in1 (A := A.in1.in1.in1) W))) (anyOf g sd) (fun i s' => AllBare s'.gens ∧ s'.drawn = s.drawn ∧ s'.os = s.os ∧ Fm [C, I] h₃ s'.heap) ?_ ?_ ?_ _ 0 _ rfl (Nat.zero_le _) (fun j hj => absurd hj (Nat.not_lt_zero _)) St0 ?_
    · rintro i v s₁ s₂ hi ⟨j1, j2, j3, j4⟩ ⟨x, hx, rfl⟩ hmv
      have f2 : Fm [C, I] h₃ s₂.heap := fun b o hb e => hmv.heap b o (by simpa using hb) (j4 b o hb e)
      rw [List.getElem?_range hi] at hx
      cases hx
      have J2 : ∀ tk, s₂.toks ≤ tk → AllBare s₂.gens ∧ s₂.drawn = s.drawn ∧ s₂.os = s.os ∧ Fm [C, I] h₃ s₂.heap := fun _ _ => ⟨hmv.gens.bare j1, hmv.drawn.trans j2, hmv.os.trans j3, f2⟩
      rw [valueAt_map (fun x : Addr × List Int => Value.ref x.1)]
      cases e : rget sd ((g.map (·.1)).getD i 0) with
      | none =>
        refine wpAny_of_eq (a := false) (by first | rfl | (unfold truthy; rfl)) ⟨by unfold anyOf; rw [e], s₂.toks, Nat.le_refl _, rfl, J2 _ (Nat.le_refl _)⟩
      | some y =>
        have hS := hD.2 _ (rget_mem e)
        have hSs := hS.live
        have hy : y.1 ∉ [C, I] := by
          simp only [List.mem_cons, List.not_mem_nil, or_false, not_or]
          obtain ⟨o, eo⟩ := hSs
          exact ⟨Nat.ne_of_lt (ltC _ _ (f₃ y.1 o (by simpa using set_off htab hS) eo)), ne_of_get eo hIs⟩
        have hS2 : SetL w s₂.heap y.1 y.2 := hS.at fun o eo => f2 _ o hy (f₃ _ o (by simpa using set_off htab hS) eo)
        refine wpAny_with_toks (Nat.le_refl s₂.toks) (truthy_L hS2 fun tk => ?_)
        exact fun htk => ⟨by unfold anyOf; rw [e], tk, htk, rfl, J2 _ htk⟩
    · rintro i s₂ hi ht ⟨j1, j2, j3, j4⟩
      exact fin true s₂ j1 j2 j3 j4 ⟨fun _ => hone i hi ht, fun _ => rfl⟩
    · rintro s₁ s₂ hf ⟨j1, j2, j3, j4⟩ hmv
      refine fin false s₂ (hmv.gens.bare j1) (hmv.drawn.trans j2) (hmv.os.trans j3) (fun b o hb e => hmv.heap b o (by simpa using hb) (j4 b o hb e)) ⟨fun q => Bool.noConfusion q, ?_⟩
      rintro ⟨x, hx, hxg, hxn⟩
      obtain ⟨j, hj, e⟩ := List.mem_iff_getElem.mp hxg
      have hj' : j < g.length := by simpa using hj
      have := hf j hj'
      unfold anyOf at this
      have e' : (g.map (·.1)).getD j 0 = x.1 := by rw [List.getD_eq_getElem?_getD, List.getElem?_eq_getElem hj]; exact e
      rw [e', rget_of_mem hD.nodup (show (x.1, x.2) ∈ sd from hx)] at this
      cases hks : x.2.2 with
      | nil => exact absurd hks hxn
      | cons z zs =>
        simp [hks] at this
    · refine ⟨?_, rfl, rfl, fun b o hb e => k₅ b o e⟩
      intro y hy
      rcases Array.mem_push.mp hy with hy | rfl
      · exact hbare y hy
      · exact hgb
end
end Mine
end

-- part E1
section
open PySem PySem.W PyProof.Rows PySem.Calls
set_option maxRecDepth 100000
namespace Mine
abbrev Rows3 := List (Int × Addr × List Int)

def Vx (g : Rows3) (x : Int) : Prop := x ∈ g.map (·.1) ∨ ∃ u, (u, x) ∈ edg g

structure KI (g sd : Rows3) (ks L : List Int) : Prop where
  skeys : ∀ m, m ∈ sd.map (·.1) ↔ ∃ u, (u, m) ∈ edg g
  inc : ∀ y ∈ sd, ∀ u, u ∈ y.2.2 ↔ (u, y.1) ∈ edg g ∧ u ∉ L
  S : ∀ x, x ∈ ks ↔ Vx g x ∧ x ∉ L ∧ ∀ u, (u, x) ∈ edg g → u ∈ L
  nd : L.Nodup
  sub : ∀ x ∈ L, Vx g x
  ord : ∀ (i : Nat) x, L[i]? = some x → ∀ u, (u, x) ∈ edg g → u ∈ L.take i

/-- inside the loop over the successors of n: those in pre are done -/
structure KJ (g sd : Rows3) (ks L : List Int) (n : Int) (pre : List Int) : Prop where
  skeys : ∀ m, m ∈ sd.map (·.1) ↔ ∃ u, (u, m) ∈ edg g
  inc : ∀ y ∈ sd, ∀ u, u ∈ y.2.2 ↔ (u, y.1) ∈ edg g ∧ u ∉ L ∧ ¬(u = n ∧ y.1 ∈ pre)
  S : ∀ x, x ∈ ks ↔ Vx g x ∧ x ∉ L ∧ x ≠ n ∧ ∀ u, (u, x) ∈ edg g → u ∈ L ∨ (u = n ∧ x ∈ pre)
  nd : L.Nodup
  sub : ∀ x ∈ L, Vx g x
  ord : ∀ (i : Nat) x, L[i]? = some x → ∀ u, (u, x) ∈ edg g → u ∈ L.take i
  nV : Vx g n
  nL : n ∉ L
  np : ∀ u, (u, n) ∈ edg g → u ∈ L

def adj (g : Rows3) (n : Int) : List Int := ((rget g n).map (·.2)).getD []

theorem mem_adj {g : Rows3} (hk : (g.map (·.1)).Nodup) {n m : Int} : m ∈ adj g n ↔ (n, m) ∈ edg g := by
  unfold adj
  rw [mem_edg]
  constructor
  · intro h
    cases e : rget g n with
    | none => rw [e] at h; simp at h
    | some y => rw [e] at h; exact ⟨_, rget_mem e, rfl, h⟩
  · rintro ⟨x, hx, e, hm⟩
    rw [← e, rget_of_mem hk (show (x.1, x.2) ∈ g from hx)]
    exact hm

theorem ord_mem {g : Rows3} {L : List Int} (ord : ∀ (i : Nat) x, L[i]? = some x → ∀ u, (u, x) ∈ edg g → u ∈ L.take i) {x u : Int} (hx : x ∈ L) (he : (u, x) ∈ edg g) : u ∈ L := by
  obtain ⟨i, hi, e⟩ := List.mem_iff_getElem.mp hx
  exact List.mem_of_mem_take (ord i x (by rw [List.getElem?_eq_getElem hi, e]) u he)

theorem KI.pop {g sd : Rows3} {ks L : List Int} (K : KI g sd ks L) (hks : ks.Nodup) {n : Int} (hn : n ∈ ks) : KJ g sd (ks.erase n) L n [] where
  skeys := K.skeys
  inc := fun y hy u => by rw [K.inc y hy u]; simp
  S := fun x => by
    rw [hks.mem_erase_iff, K.S x]
    simp only [List.not_mem_nil, and_false, or_false]
    exact ⟨fun ⟨a, b, c, d⟩ => ⟨b, c, a, d⟩, fun ⟨b, c, a, d⟩ => ⟨a, b, c, d⟩⟩
  nd := K.nd
  sub := K.sub
  ord := K.ord
  nV := ((K.S n).mp hn).1
  nL := ((K.S n).mp hn).2.1
  np := ((K.S n).mp hn).2.2

theorem KJ.row {g sd : Rows3} {ks L : List Int} {n : Int} {pre : List Int} (K : KJ g sd ks L n pre) {m : Int} (hm : (n, m) ∈ edg g) (hp : m ∉ pre) : ∃ y ∈ sd, y.1 = m ∧ n ∈ y.2.2 := by
  obtain ⟨y, hy, e⟩ := List.mem_map.mp ((K.skeys m).mpr ⟨n, hm⟩)
  exact ⟨y, hy, e, (K.inc y hy n).mpr ⟨e ▸ hm, K.nL, fun q => hp (e ▸ q.2)⟩⟩

theorem KJ.step {g sd sd' : Rows3} {ks ks' L : List Int} {n : Int} {pre : List Int} (K : KJ g sd ks L n pre) {m : Int} (hm : (n, m) ∈ edg g) (hp : m ∉ pre)
    (hnd : ∀ y ∈ sd, y.2.2.Nodup) (hsd : sd' = sd.map fun y => if y.1 = m then (y.1, y.2.1, y.2.2.erase n) else y)
    (hks : ∀ x, x ∈ ks' ↔ x ∈ ks ∨ (x = m ∧ ∀ y ∈ sd, y.1 = m → y.2.2.erase n = [])) : KJ g sd' ks' L n (pre ++ [m]) where
  skeys := fun x => by
    have : sd'.map (·.1) = sd.map (·.1) := by rw [hsd, List.map_map]; refine List.map_congr_left fun y _ => ?_; simp only [Function.comp]; split <;> rfl
    rw [this, K.skeys]
  inc := fun y hy u => by
    rw [hsd] at hy
    obtain ⟨z, hz, rfl⟩ := List.mem_map.mp hy
    by_cases q : z.1 = m
    · rw [if_pos q]
      dsimp only
      rw [(hnd z hz).mem_erase_iff, K.inc z hz u, q]
      simp only [List.mem_append, List.mem_singleton, or_true, and_true]
      constructor
      · rintro ⟨a, b, c, d⟩; exact ⟨b, c, a⟩
      · rintro ⟨b, c, a⟩; exact ⟨a, b, c, fun q => a q.1⟩
    · rw [if_neg q, K.inc z hz u]
      simp only [List.mem_append, List.mem_singleton, q, or_false]
  S := fun x => by
    rw [hks, K.S]
    obtain ⟨y, hy, ey, hny⟩ := K.row hm hp
    have hmn : m ≠ n := fun e => K.nL (K.np n (e ▸ hm))
    by_cases q : x = m
    · subst q
      simp only [List.mem_append, List.mem_singleton, or_true, and_true, true_and]
      constructor
      · rintro (⟨a, b, c, d⟩ | h)
        · exact ⟨a, b, c, fun u hu => (d u hu).elim .inl fun z => .inr z.1⟩
        · refine ⟨.inr ⟨n, hm⟩, fun hx => K.nL (ord_mem K.ord hx hm), hmn, fun u hu => ?_⟩
          have h0 := h y hy ey
          by_cases q1 : u ∈ L
          · exact .inl q1
          · by_cases q2 : u = n
            · exact .inr q2
            · have : u ∈ y.2.2.erase n := ((hnd y hy).mem_erase_iff).mpr ⟨q2, (K.inc y hy u).mpr ⟨ey ▸ hu, q1, fun z => q2 z.1⟩⟩
              rw [h0] at this; cases this
      · rintro ⟨a, b, c, d⟩
        refine .inr fun z hz ez => List.eq_nil_iff_forall_not_mem.mpr fun u hu => ?_
        rw [(hnd z hz).mem_erase_iff, K.inc z hz u] at hu
        obtain ⟨h1, h2, h3, _⟩ := hu
        rcases d u (ez ▸ h2) with h | h
        · exact h3 h
        · exact h1 h
    · simp only [List.mem_append, List.mem_singleton, q, or_false, false_and]
  nd := K.nd
  sub := K.sub
  ord := K.ord
  nV := K.nV
  nL := K.nL
  np := K.np

theorem KJ.done {g sd : Rows3} {ks L : List Int} {n : Int} (hk : (g.map (·.1)).Nodup) (K : KJ g sd ks L n (adj g n)) : KI g sd ks (L ++ [n]) where
  skeys := K.skeys
  inc := fun y hy u => by
    rw [K.inc y hy u]
    simp only [List.mem_append, List.mem_singleton, not_or]
    constructor
    · rintro ⟨a, b, c⟩; exact ⟨a, b, fun q => c ⟨q, (mem_adj hk).mpr (q ▸ a)⟩⟩
    · rintro ⟨a, b, c⟩; exact ⟨a, b, fun q => c q.1⟩
  S := fun x => by
    rw [K.S x]
    simp only [List.mem_append, List.mem_singleton, not_or]
    constructor
    · rintro ⟨a, b, c, d⟩; exact ⟨a, ⟨b, c⟩, fun u hu => (d u hu).elim .inl fun q => .inr q.1⟩
    · rintro ⟨a, ⟨b, c⟩, d⟩
      exact ⟨a, b, c, fun u hu => (d u hu).elim .inl fun q => .inr ⟨q, (mem_adj hk).mpr (q ▸ hu)⟩⟩
  nd := by rw [List.nodup_append]; exact ⟨K.nd, by simp, fun a ha b hb => by rw [List.mem_singleton.mp hb]; exact fun e => K.nL (e ▸ ha)⟩
  sub := fun x hx => by
    rcases List.mem_append.mp hx with h | h
    · exact K.sub x h
    · rw [List.mem_singleton.mp h]; exact K.nV
  ord := fun i x hx u hu => by
    rcases Nat.lt_or_ge i L.length with h | h
    · rw [List.getElem?_append_left h] at hx
      rw [List.take_append_of_le_length (Nat.le_of_lt h)]
      exact K.ord i x hx u hu
    · rw [List.getElem?_append_right h] at hx
      have hi : i - L.length = 0 := by
        rcases Nat.eq_zero_or_pos (i - L.length) with z | z
        · exact z
        · rw [List.getElem?_eq_none (by simp only [List.length_singleton]; exact z)] at hx; cases hx
      rw [hi] at hx
      have : x = n := by simpa using hx.symm
      have hl : i = L.length := by omega
      rw [hl, List.take_left]
      exact K.np u (this ▸ hu)

/-- the end of the loop: no set of a row is left, or a cycle is -/
structure KOk (g : Rows3) (L : List Int) : Prop where
  nd : L.Nodup
  all : ∀ x, x ∈ L ↔ Vx g x
  ord : ∀ (i : Nat) x, L[i]? = some x → ∀ u, (u, x) ∈ edg g → u ∈ L.take i
def KBad (g : Rows3) : Prop := ∃ C : Int → Prop, (∃ v, C v) ∧ ∀ v, C v → Vx g v ∧ ∃ u, C u ∧ (u, v) ∈ edg g

theorem KI.stuck {g sd : Rows3} {L : List Int} (K : KI g sd [] L) {v : Int} (hv : Vx g v) (hl : v ∉ L) : ∃ u, u ∉ L ∧ (u, v) ∈ edg g := by
  by_cases h : ∃ u, u ∉ L ∧ (u, v) ∈ edg g
  · exact h
  · exact absurd ((K.S v).mpr ⟨hv, hl, fun u hu => Classical.byContradiction fun q => h ⟨u, q, hu⟩⟩) (by simp)

theorem Vx_left {g : Rows3} {u v : Int} (h : (u, v) ∈ edg g) : u ∈ g.map (·.1) := by
  obtain ⟨x, hx, e, _⟩ := mem_edg.mp h
  exact e ▸ List.mem_map_of_mem hx

theorem KI.bad {g sd : Rows3} {L : List Int} (K : KI g sd [] L) (h : ∃ x ∈ sd, x.1 ∈ g.map (·.1) ∧ x.2.2 ≠ []) : KBad g := by
  obtain ⟨x, hx, _, hn⟩ := h
  obtain ⟨u, hu⟩ := List.exists_mem_of_ne_nil _ hn
  have hu' := (K.inc x hx u).mp hu
  refine ⟨fun v => Vx g v ∧ v ∉ L, ⟨u, .inl (Vx_left hu'.1), hu'.2⟩, fun v hv => ⟨hv.1, ?_⟩⟩
  obtain ⟨z, hz, he⟩ := K.stuck hv.1 hv.2
  exact ⟨z, ⟨.inl (Vx_left he), hz⟩, he⟩

theorem KI.good {g sd : Rows3} {L : List Int} (K : KI g sd [] L) (h : ¬ ∃ x ∈ sd, x.1 ∈ g.map (·.1) ∧ x.2.2 ≠ []) : KOk g L := by
  refine ⟨K.nd, fun x => ⟨K.sub x, fun hv => Classical.byContradiction fun hl => h ?_⟩, K.ord⟩
  obtain ⟨u, hu, he⟩ := K.stuck hv hl
  obtain ⟨z, hz, he'⟩ := K.stuck (.inl (Vx_left he)) hu
  obtain ⟨y, hy, ey⟩ := List.mem_map.mp ((K.skeys u).mpr ⟨z, he'⟩)
  exact ⟨y, hy, ey ▸ Vx_left he, List.ne_nil_of_mem ((K.inc y hy z).mpr ⟨ey ▸ he', hz⟩)⟩
end Mine
end

-- part E2
section
open PySem PySem.W PyProof.Rows PySem.Calls
set_option maxRecDepth 100000
namespace Mine
section
variable {prog : Program} {w : World} {A : Around} {E : Value → Shared → Prop} {s : Shared}

theorem methodOn_setadd {pos : Pos} {l : Addr} {t : Sem Value} {Q : Value → Shared → Prop} {ks₀ : List Int} (hS : SetL w s.heap l ks₀)
    (h : wpAny (model prog w) A t (fun v s₁ => ∃ k u ks, v = .int k u ∧ SetL w s₁.heap l ks ∧ ks.length + 1 < 1000 ∧ ∀ h', Heap.SameBut l s₁.heap h' → SetL w h' l (if k ∈ ks then ks else k :: ks) → Q .none { s₁ with heap := h', toks := s₁.toks + 1 }) E s) :
    MethodOn prog w A "add" pos (.ref l) [(false, t)] Q E s := by
  refine ⟨"set", "set.add", PySem.F.plainAttrs_set, PySem.F.slot_set_add, PySem.F.type_set_add, hS.typeIs, hS.noDict, ?_⟩
  refine callWith_builtin rfl (evalArgs_plain (spliced_cons (wpAny_mono h (fun v s₁ ⟨k, u, ks, e, hk, hz, hQ⟩ => spliced_nil ?_) fun _ _ e => e)))
  subst e
  exact call_add_L hk hz hQ
theorem methodOn_setremove {pos : Pos} {l : Addr} {t : Sem Value} {Q : Value → Shared → Prop} {ks₀ : List Int} (hS : SetL w s.heap l ks₀)
    (h : wpAny (model prog w) A t (fun v s₁ => ∃ k u ks, v = .int k u ∧ SetL w s₁.heap l ks ∧ k ∈ ks ∧ ∀ h', Heap.SameBut l s₁.heap h' → SetL w h' l (ks.erase k) → Q .none { s₁ with heap := h', toks := s₁.toks + 1 }) E s) :
    MethodOn prog w A "remove" pos (.ref l) [(false, t)] Q E s := by
  refine ⟨"set", "set.remove", PySem.F.plainAttrs_set, PySem.F.slot_set_remove, PySem.F.type_set_remove, hS.typeIs, hS.noDict, ?_⟩
  refine callWith_builtin rfl (evalArgs_plain (spliced_cons (wpAny_mono h (fun v s₁ ⟨k, u, ks, e, hk, hz, hQ⟩ => spliced_nil ?_) fun _ _ e => e)))
  subst e
  exact call_remove_L hk hz hQ
theorem methodOn_setpop {pos : Pos} {l : Addr} {Q : Value → Shared → Prop} {ks : List Int} (hS : SetL w s.heap l ks) (hne : ks ≠ [])
    (h : ∀ h' dr k u, k ∈ ks → Heap.SameBut l s.heap h' → SetL w h' l (ks.erase k) → Q (.int k u) { s with heap := h', drawn := dr }) :
    MethodOn prog w A "pop" pos (.ref l) [] Q E s := by
  refine ⟨"set", "set.pop", PySem.F.plainAttrs_set, PySem.F.slot_set_pop, PySem.F.type_set_pop, hS.typeIs, hS.noDict, ?_⟩
  refine callWith_builtin rfl (PySem.evalArgs_none ?_)
  exact call_pop_L hS hne h

def whileBody : List Stmt := match topoD.body with
  | [_, _, _, _, .While _ b _ _, _, _] => b
  | _ => []
def kahnBody : List Stmt := match whileBody with
  | [_, _, .For _ _ b _ _] => b
  | _ => []

set_option maxHeartbeats 4000000 in
theorem kahn_body {L a c D SS : Addr} {m : Str → Option Value} {sd : Rows3} {ks : List Int} {n mv : Int} {tn tm : Tok} {y : Int × Addr × List Int} {Q : Flow → Shared → Prop}
    (hn : s.heap.Ns L m) (hmS : m "S" = some (.ref SS)) (hmn : m "n" = some (.int n tn)) (hmm : m "m" = some (.int mv tm))
    (hcell : s.heap.IsCell (L + 1) (some (.ref D))) (hD : SDict prog w s.heap D sd) (hDs : sysModules < D) (hS : SetL w s.heap SS ks) (hkl : ks.length < 900)
    (hy : y ∈ sd) (hye : y.1 = mv) (hny : n ∈ y.2.2) (hap : (sd.map (·.2.1)).Nodup) (hoff : ∀ x ∈ sd, x.2.1 ≠ D ∧ x.2.1 ≠ SS) (hDS : D ≠ SS)
    (h : ∀ h' tok ks', Fm [y.2.1, SS] s.heap h' → SDict prog w h' D (sd.map fun z => if z.1 = mv then (z.1, z.2.1, z.2.2.erase n) else z) → SetL w h' SS ks' → (∀ x, x ∈ ks' ↔ x ∈ ks ∨ (x = mv ∧ y.2.2.erase n = [])) →
      Q .next { s with heap := h', toks := tok }) :
    wpAny (model prog w) A (execs kahnBody (envOfC topoD.name topoD.scope L a (.ref c))) Q E s := by
  have hyS := hD.2 y hy
  have hLy : L ≠ y.2.1 := fun q => by
    obtain ⟨o, es, ep, ho, hd, _⟩ := hn
    obtain ⟨o', _, _, _, ho', _, hd', _⟩ := hyS
    rw [q, ho'] at ho; cases ho; rw [hd'] at hd; cases hd
  have hLS : L ≠ SS := fun q => by
    obtain ⟨o, es, ep, ho, hd, _⟩ := hn
    obtain ⟨o', _, _, _, ho', _, hd', _⟩ := hS
    rw [q, ho'] at ho; cases ho; rw [hd'] at hd; cases hd
  have hcy : L + 1 ≠ y.2.1 := fun q => by
    obtain ⟨o, ho, hd⟩ := hcell
    obtain ⟨o', _, _, _, ho', _, hd', _⟩ := hyS
    rw [q, ho'] at ho; cases ho; rw [hd'] at hd; cases hd
  have hval : valueAt (sd.map fun x => (x.1, Value.ref x.2.1)) mv = some (.ref y.2.1) := by
    rw [valueAt_map (fun x : Addr × List Int => Value.ref x.1), ← hye, rget_of_mem hD.nodup (show (y.1, y.2) ∈ sd from hy)]; rfl
  -- incoming_edges[m]
  have sub : ∀ (px p1 p2 : Pos) (s' : Shared) (Q' : Value → Shared → Prop), s'.heap.Ns L m → s'.heap.IsCell (L + 1) (some (.ref D)) → s'.heap.DictOf (intKind prog w) D (sd.map fun x => (x.1, Value.ref x.2.1)) → Q' (.ref y.2.1) { s' with toks := s'.toks + 1 } →
      wpAny (model prog w) A (eval (.Subscript (.Name ("incoming_edges" : Str) p1) (.Name ("m" : Str) p2) px) (envOfC topoD.name topoD.scope L a (.ref c))) Q' E s' := by
    intro px p1 p2 s' Q' h1 h2 h3 hQ
    exact sub_gen (nm_cell (c := L + 1) (by rfl) h2 (nm_loc h1 hmm (sub_dict h3 hval hQ)))
  refine wpAny_execs_cons (wpAny_Assert_holds (wpAny_isTrue_Compare1 (nm_loc hn hmn ?_)))
  refine sub _ _ _ s _ hn hcell hD.1 ?_
  refine in_L hyS (wpAny_truthy_bool ⟨by simpa using hny, ?_⟩)
  dsimp only
  refine wpAny_execs_cons (wpAny_Expr (wpAny_Call_method1_late (by rfl) (by rfl) (by rfl) ?_))
  refine sub _ _ _ { s with toks := s.toks + 1 + 1 } _ hn hcell hD.1 ?_
  refine methodOn_setremove (s := { s with toks := s.toks + 1 + 1 + 1 }) hyS (nm_loc hn hmn ⟨n, tn, y.2.2, rfl, hyS, hny, fun h₁ hs₁ hS₁ => ?_⟩)
  replace hs₁ : Heap.SameBut y.2.1 s.heap h₁ := hs₁
  dsimp only
  have hn₁ : h₁.Ns L m := hn.sameBut hs₁ hLy
  have hcell₁ : h₁.IsCell (L + 1) (some (.ref D)) := hcell.sameBut hs₁ hcy
  have hSy : SS ≠ y.2.1 := Ne.symm (hoff y hy).2
  have hSS₁ : SetL w h₁ SS ks := hS.at fun o e => hs₁.extBut SS o hSy e
  have hD₁' := DictOf_at hD.1 fun o e => hs₁.extBut D o (Ne.symm (hoff y hy).1) e
  have hmap : (sd.map fun z => if z.1 = mv then (z.1, z.2.1, z.2.2.erase n) else z).map (fun x => (x.1, Value.ref x.2.1)) = sd.map fun x => (x.1, Value.ref x.2.1) := by
    rw [List.map_map]; refine List.map_congr_left fun z _ => ?_; simp only [Function.comp]; split <;> rfl
  have huniq : ∀ z ∈ sd, z.1 = mv → z = y := fun z hz e => inj_of_nodup (fun x : Int × Addr × List Int => x.1) hD.nodup hz hy (e.trans hye.symm)
  have hrows : ∀ h', (∀ z ∈ sd, z ≠ y → ∀ o, s.heap.get? z.2.1 = some o → h'.get? z.2.1 = some o) → SetL w h' y.2.1 (y.2.2.erase n) → h'.DictOf (intKind prog w) D (sd.map fun x => (x.1, Value.ref x.2.1)) →
      SDict prog w h' D (sd.map fun z => if z.1 = mv then (z.1, z.2.1, z.2.2.erase n) else z) := fun h' hk hy' hd' => by
    refine ⟨by rw [hmap]; exact hd', fun z hz => ?_⟩
    obtain ⟨x, hx, rfl⟩ := List.mem_map.mp hz
    by_cases q : x.1 = mv
    · rw [if_pos q, huniq x hx q]; exact hy'
    · rw [if_neg q]; exact (hD.2 x hx).at (hk x hx fun e => q (e ▸ hye))
  have hz : ∀ z ∈ sd, z ≠ y → z.2.1 ≠ y.2.1 := fun z hz hne e => hne (inj_of_nodup (fun x : Int × Addr × List Int => x.2.1) hap hz hy e)
  refine wpAny_execs_cons (wpAny_If (wpAny_isTrue_Not (wpAny_isTrue_value (sub _ _ _ { s with heap := h₁, toks := s.toks + 1 + 1 + 1 + 1 } _ hn₁ hcell₁ hD₁' ?_) (by rfl))))
  refine truthy_L (s := { s with heap := h₁, toks := s.toks + 1 + 1 + 1 + 1 + 1 }) hS₁ fun tk => ?_
  dsimp only
  cases hem : y.2.2.erase n with
  | nil =>
    simp only [List.isEmpty_nil, Bool.not_true, Bool.not_false, if_true]
    refine wpAny_execs_cons (wpAny_Expr (wpAny_Call_method1_late (by rfl) (by rfl) (by rfl) ?_))
    refine nm_loc hn₁ hmS ?_
    refine methodOn_setadd (s := { s with heap := h₁, toks := tk }) hSS₁ (nm_loc hn₁ hmm ⟨mv, tm, ks, rfl, hSS₁, by omega, fun h₂ hs₂ hS₂ => ?_⟩)
    replace hs₂ : Heap.SameBut SS h₁ h₂ := hs₂
    refine wpAny_execs_nil (wpAny_execs_nil ?_)
    refine h h₂ _ _ (fun b o hb e => ?_) (hrows h₂ (fun z hzm hne o e => hs₂.extBut _ o (hoff z hzm).2 (hs₁.extBut _ o (hz z hzm hne) e)) (hS₁.at fun o e => hs₂.extBut _ o (hoff y hy).2 e) (DictOf_at hD₁' fun o e => hs₂.extBut D o hDS e)) hS₂ (fun x => ?_)
    · simp only [List.mem_cons, List.not_mem_nil, or_false, not_or] at hb
      exact hs₂.extBut b o hb.2 (hs₁.extBut b o hb.1 e)
    · by_cases q : mv ∈ ks
      · rw [if_pos q]; simp only [hem, and_true]; exact ⟨.inl, fun z => z.elim id fun e => e ▸ q⟩
      · rw [if_neg q, List.mem_cons]; simp only [hem, and_true]; exact Or.comm
  | cons z zs =>
    simp only [List.isEmpty_cons, Bool.not_false, Bool.not_true, Bool.false_eq_true, if_false]
    refine wpAny_execs_nil (wpAny_execs_nil ?_)
    refine h h₁ _ ks (fun b o hb e => ?_) (hrows h₁ (fun z hzm hne o e => hs₁.extBut _ o (hz z hzm hne) e) hS₁ hD₁') hSS₁ (fun x => by simp [hem])
    simp only [List.mem_cons, List.not_mem_nil, or_false, not_or] at hb
    exact hs₁.extBut b o hb.1 e
end
end Mine
end

-- part E3
section
open PySem PySem.W PyProof.Rows PySem.Calls
set_option maxRecDepth 100000
namespace Mine

theorem KJ.len {g sd : Rows3} {ks L : List Int} {n : Int} {pre : List Int} (K : KJ g sd ks L n pre) (hk : ks.Nodup) : ks.length ≤ g.length + sd.length := by
  have := nodup_length_le ks (g.map (·.1) ++ sd.map (·.1)) hk fun x hx => by
    rcases ((K.S x).mp hx).1 with h | h
    · exact List.mem_append.mpr (.inl h)
    · exact List.mem_append.mpr (.inr ((K.skeys x).mpr h))
  simpa using this
theorem KI.len {g sd : Rows3} {ks L : List Int} (K : KI g sd ks L) : L.length ≤ g.length + sd.length := by
  have := nodup_length_le L (g.map (·.1) ++ sd.map (·.1)) K.nd fun x hx => by
    rcases K.sub x hx with h | h
    · exact List.mem_append.mpr (.inl h)
    · exact List.mem_append.mpr (.inr ((K.skeys x).mpr h))
  simpa using this

section
variable {prog : Program} {w : World} {A : Around} {E : Value → Shared → Prop} {s : Shared}

theorem set_ne {h : Heap} {a b : Addr} {ks : List Int} {o : Obj} (x : SetL w h a ks) (e : h.get? b = some o) (hd : ∀ es ep t, o.data ≠ .set es ep t) : a ≠ b := by
  rintro rfl
  obtain ⟨o', es, ep, t, ho', _, hd', _⟩ := x
  rw [e] at ho'; cases ho'
  exact hd _ _ _ hd'
theorem set_ne_ns {h : Heap} {a b : Addr} {ks : List Int} {m : Str → Option Value} (x : SetL w h a ks) (y : h.Ns b m) : a ≠ b := by
  obtain ⟨o, es, ep, ho, hd, _⟩ := y
  exact set_ne x ho fun _ _ _ q => by rw [hd] at q; cases q
theorem set_ne_dict {h : Heap} {a b : Addr} {ks : List Int} {kvs : List (Int × Value)} (x : SetL w h a ks) (y : h.DictOf (intKind prog w) b kvs) : a ≠ b := by
  obtain ⟨o, es, ep, ho, hc, hd, _⟩ := y
  exact set_ne x ho fun _ _ _ q => by rw [hd] at q; cases q
theorem set_ne_list {h : Heap} {a b : Addr} {ks : List Int} {vs : Array Value} (x : SetL w h a ks) (y : h.IsList b vs) : a ≠ b := by
  obtain ⟨o, ho, hc, n, hd⟩ := y
  exact set_ne x ho fun _ _ _ q => by rw [hd] at q; cases q
theorem set_ne_tup {h : Heap} {a b : Addr} {ks : List Int} {vs : Array Value} (x : SetL w h a ks) (y : IsTup h b vs) : a ≠ b := by
  obtain ⟨o, ho, hc, n, hd⟩ := y
  exact set_ne x ho fun _ _ _ q => by rw [hd] at q; cases q
theorem set_ne_cell {h : Heap} {a b : Addr} {ks : List Int} {v : Option Value} (x : SetL w h a ks) (y : h.IsCell b v) : a ≠ b := by
  obtain ⟨o, ho, hd⟩ := y
  exact set_ne x ho fun _ _ _ q => by rw [hd] at q; cases q
theorem SDict.fm {h h' : Heap} {d : Addr} {g : Rows3} {W : List Addr} (x : SDict prog w h d g) (k : Fm W h h') (hd : d ∉ W) (hr : ∀ y ∈ g, y.2.1 ∉ W) : SDict prog w h' d g :=
  ⟨DictOf_at x.1 fun o e => k d o hd e, fun y hy => (x.2 y hy).at fun o e => k _ o (hr y hy) e⟩

set_option maxHeartbeats 4000000 in
theorem kahn_for {L a c D SS d : Addr} {m : Str → Option Value} {g sd : Rows3} {ks Lst : List Int} {n : Int} {tn : Tok} {Q : Flow → Shared → Prop} (hh : A.handled = none)
    (hn : s.heap.Ns L m) (hmd : m "edges" = some (.ref d)) (hmS : m "S" = some (.ref SS)) (hmn : m "n" = some (.int n tn))
    (hd : LDict prog w s.heap d g) (hds : sysModules < d) (hcell : s.heap.IsCell (L + 1) (some (.ref D))) (hD : SDict prog w s.heap D sd) (hDs : sysModules < D) (hS : SetL w s.heap SS ks)
    (hgn : ∀ x ∈ g, x.2.2.Nodup) (hsz : g.length + sd.length < 900) (hap : (sd.map (·.2.1)).Nodup) (hoff : ∀ x ∈ sd, x.2.1 ≠ SS) (hDL : D ≠ L) (K : KJ g sd ks Lst n [])
    (h : ∀ h' tok m' sd' ks', Fm (L :: SS :: sd.map (·.2.1)) s.heap h' → h'.Ns L m' → (∀ x : Str, x ≠ "m" → m' x = m x) → SDict prog w h' D sd' → sd'.map (·.2.1) = sd.map (·.2.1) → SetL w h' SS ks' → KI g sd' ks' (Lst ++ [n]) →
      Q .next { s with heap := h', toks := tok }) :
    wpAny (model prog w) A (execs (whileBody.drop 2) (envOfC topoD.name topoD.scope L a (.ref c))) Q E s := by
  have hDS : D ≠ SS := Ne.symm (set_ne_dict hS hD.1)
  have hSL : SS ≠ L := set_ne_ns hS hn
  have hSc : SS ≠ L + 1 := set_ne_cell hS hcell
  have hrL : ∀ x ∈ sd, x.2.1 ≠ L := fun x hx => set_ne_ns (hD.2 x hx) hn
  have hrc : ∀ x ∈ sd, x.2.1 ≠ L + 1 := fun x hx => set_ne_cell (hD.2 x hx) hcell
  have hrD : ∀ x ∈ sd, x.2.1 ≠ D := fun x hx => set_ne_dict (hD.2 x hx) hD.1
  have hcL : L + 1 ≠ L := Nat.succ_ne_self L
  -- the loop itself, over whatever list or tuple
  have common : ∀ (s₂ : Shared) (T I : Addr) (vs : List Value) (St : Nat → Heap → Prop), s₂.gens = s.gens → s₂.drawn = s.drawn → s₂.os = s.os → (∀ b o, s.heap.get? b = some o → s₂.heap.get? b = some o) → s.heap.get? I = none →
      (∀ x ∈ sd, x.2.1 ≠ T) → SS ≠ T → L ≠ T → IntsAre vs (adj g n) → Walks prog w A I [I, T] [I] vs.toArray.size (fun i v => vs.toArray[i]? = some v) St → St 0 s₂.heap →
      ∃ (I' : Addr) (fp wr : List Addr) (k : Nat) (P : Nat → Value → Prop) (St : Nat → Heap → Prop) (m₁ : Str → Option Value) (J : Nat → (Str → Option Value) → Shared → Prop),
        Value.ref I = .ref I' ∧ Walks prog w A I' fp wr k P St ∧ L ∉ fp ∧ St 0 s₂.heap ∧ s₂.heap.Ns L m₁ ∧ J 0 m₁ s₂ ∧
        (∀ i m s h' tk, J i m s → Fm (L :: wr) s.heap h' → J i m { s with heap := h', toks := tk }) ∧
        (∀ i v m s, i < k → P i v → J i m s → St (i + 1) s.heap → s.heap.Ns L (upd m "m" v) →
          wpAny (model prog w) A (execs kahnBody (envOfC topoD.name topoD.scope L a (.ref c))) (fun f s₃ => match f with
            | .next | .cont => ∃ m', s₃.heap.Ns L m' ∧ (∀ b ∈ fp, ∀ o, s.heap.get? b = some o → s₃.heap.get? b = some o) ∧ J (i + 1) m' s₃
            | .brk => wpAny (model prog w) A (execs [] (envOfC topoD.name topoD.scope L a (.ref c))) Q E s₃
            | .ret v => Q (.ret v) s₃) (fun _ _ => False) s) ∧
        (∀ m s, J k m s → s.heap.Ns L m → wpAny (model prog w) A (execs [] (envOfC topoD.name topoD.scope L a (.ref c))) Q E s) := by
    intro s₂ T I vs St e1 e2 e3 k₂ hIn hrT hST hLT hvs W hst
    have hlive : ∀ {b : Addr}, (∃ o, s.heap.get? b = some o) → b ≠ I := fun h => ne_of_get' h hIn
    refine ⟨I, _, _, _, _, St, m, fun i m' s' => (∀ x : Str, x ≠ "m" → m' x = m x) ∧ (∃ tk, s' = { s with heap := s'.heap, toks := tk }) ∧ Fm (L :: I :: SS :: sd.map (·.2.1)) s.heap s'.heap ∧
      ∃ sd' ks', SDict prog w s'.heap D sd' ∧ sd'.map (·.2.1) = sd.map (·.2.1) ∧ SetL w s'.heap SS ks' ∧ KJ g sd' ks' Lst n ((adj g n).take i), rfl, W, ?_, hst, hn.keeps k₂, ?_, ?_, ?_, ?_⟩
    · simp only [List.mem_cons, List.not_mem_nil, or_false, not_or]; exact ⟨hlive (Ns_live hn), hLT⟩
    · obtain ⟨hp2, g2, d2, t2, o2⟩ := s₂
      cases e1; cases e2; cases e3
      exact ⟨fun _ _ => rfl, ⟨_, rfl⟩, Fm.keep k₂, sd, ks, hD.fm (W := []) (Fm.keep k₂) (by simp) (by simp), rfl, hS.at fun o e => k₂ _ o e, K⟩
    · rintro i m' s' h' tk ⟨j1, ⟨tk', j2⟩, j3, sd', ks', j4, j5, j6, j7⟩ hf
      replace hf : Fm [L, I] s'.heap h' := hf
      have hrow : ∀ y ∈ sd', y.2.1 ∉ [L, I] := fun y hy => by
        have : y.2.1 ∈ sd.map (·.2.1) := j5 ▸ List.mem_map_of_mem hy
        obtain ⟨x, hx, e⟩ := List.mem_map.mp this
        rw [← e]
        simp only [List.mem_cons, List.not_mem_nil, or_false, not_or]
        exact ⟨hrL x hx, hlive (hD.2 x hx).live⟩
      refine ⟨j1, ⟨tk, by rw [j2]⟩, j3.trans (hf.mono fun b hb => ?_), sd', ks', j4.fm hf ?_ hrow, j5, j6.at fun o e => hf SS o ?_ e, j7⟩
      · simp only [List.mem_cons, List.not_mem_nil, or_false] at hb ⊢
        rcases hb with q | q
        · exact .inl q
        · exact .inr (.inl q)
      · simp only [List.mem_cons, List.not_mem_nil, or_false, not_or]; exact ⟨hDL, hlive (DictOf_live hD.1)⟩
      · simp only [List.mem_cons, List.not_mem_nil, or_false, not_or]; exact ⟨hSL, hlive hS.live⟩
    · rintro i v m' s' hi hv ⟨j1, ⟨tk', j2⟩, j3, sd', ks', j4, j5, j6, j7⟩ hst' hn'
      have hi' : i < (adj g n).length := by rw [← hvs.length]; simpa using hi
      obtain ⟨tv, ev⟩ := hvs.get i (adj g n)[i] (by simp)
      have hve : v = .int (adj g n)[i] tv := by
        have hv2 : vs[i]? = some v := by simpa using hv
        rw [ev] at hv2; exact (Option.some.inj hv2).symm
      subst hve
      have hadjn : (adj g n).Nodup := by
        unfold adj
        cases e : rget g n with
        | none => exact .nil
        | some z => exact hgn _ (rget_mem e)
      have hm : (n, (adj g n)[i]) ∈ edg g := (mem_adj hd.nodup).mp (List.getElem_mem _)
      have hp : (adj g n)[i] ∉ (adj g n).take i := fun q => by
        rw [← List.take_append_drop i (adj g n), List.nodup_append] at hadjn
        refine hadjn.2.2 _ q _ ?_ rfl
        rw [List.drop_eq_getElem_cons hi']; exact List.mem_cons_self
      obtain ⟨y, hy, hye, hny⟩ := j7.row hm hp
      have hrow : ∀ y ∈ sd', ∃ x ∈ sd, x.2.1 = y.2.1 := fun y hy => by
        have : y.2.1 ∈ sd.map (·.2.1) := j5 ▸ List.mem_map_of_mem hy
        obtain ⟨x, hx, e⟩ := List.mem_map.mp this
        exact ⟨x, hx, e⟩
      have hlen' : sd'.length = sd.length := by simpa using congrArg List.length j5
      have hcell' : s'.heap.IsCell (L + 1) (some (.ref D)) := let ⟨o, ho, hdt⟩ := hcell; ⟨o, j3 _ o (by
        simp only [List.mem_cons, List.mem_map, not_or, not_exists, not_and]
        exact ⟨hcL, hlive ⟨o, ho⟩, Ne.symm hSc, fun x hx => hrc x hx⟩) ho, hdt⟩
      obtain ⟨x0, hx0, ex0⟩ := hrow y hy
      refine wpAny_mono (kahn_body (a := a) (c := c) (E := fun _ _ => False) (m := upd m' "m" (.int _ tv)) hn' (by rw [upd_ne (by decide), j1 _ (by decide)]; exact hmS) (by rw [upd_ne (by decide), j1 _ (by decide)]; exact hmn) upd_same hcell' j4 hDs j6
        (by have := j7.len j6.nodup; omega) hy hye hny (j5 ▸ hap) (fun z hz => let ⟨x, hx, e⟩ := hrow z hz; by rw [← e]; exact ⟨hrD x hx, hoff x hx⟩) hDS
        (Q := fun f s₃ => f = .next ∧ ∃ h' tok ks'', s₃ = { s' with heap := h', toks := tok } ∧ Fm [y.2.1, SS] s'.heap h' ∧ SDict prog w h' D (sd'.map fun z => if z.1 = (adj g n)[i] then (z.1, z.2.1, z.2.2.erase n) else z) ∧ SetL w h' SS ks'' ∧ (∀ x, x ∈ ks'' ↔ x ∈ ks' ∨ (x = (adj g n)[i] ∧ y.2.2.erase n = [])))
        (fun h' tok ks'' a1 a2 a3 a4 => ⟨rfl, h', tok, ks'', rfl, a1, a2, a3, a4⟩)) ?_ fun _ _ e => e
      rintro f s₃ ⟨rfl, h', tok, ks'', rfl, a1, a2, a3, a4⟩
      refine ⟨upd m' "m" (.int _ tv), hn'.at' fun o e => a1 L o ?_ e, fun b hb o e => a1 b o ?_ e, fun x hx => by rw [upd_ne hx]; exact j1 x hx, ⟨tok, by rw [j2]⟩, j3.trans (a1.mono fun b hb => ?_), _, ks'', a2, ?_, a3, ?_⟩
      · simp only [List.mem_cons, List.not_mem_nil, or_false, not_or]
        exact ⟨by rw [← ex0]; exact Ne.symm (hrL x0 hx0), Ne.symm hSL⟩
      · simp only [List.mem_cons, List.not_mem_nil, or_false, not_or] at hb ⊢
        rcases hb with q | q
        · rw [q, ← ex0]; exact ⟨Ne.symm (hlive (hD.2 x0 hx0).live), Ne.symm (hlive hS.live)⟩
        · rw [q, ← ex0]; exact ⟨Ne.symm (hrT x0 hx0), Ne.symm hST⟩
      · simp only [List.mem_cons, List.not_mem_nil, or_false] at hb ⊢
        rcases hb with q | q
        · exact .inr (.inr (.inr (by rw [q, ← ex0]; exact List.mem_map_of_mem hx0)))
        · exact .inr (.inr (.inl q))
      · rw [List.map_map, ← j5]; refine List.map_congr_left fun z _ => ?_; simp only [Function.comp]; split <;> rfl
      · have hstep := j7.step hm hp (fun z hz => (j4.2 z hz).nodup) rfl (ks' := ks'') (fun x => by
          rw [a4 x]
          have huniq : ∀ z ∈ sd', z.1 = (adj g n)[i] → z = y := fun z hz e => inj_of_nodup (fun x : Int × Addr × List Int => x.1) j4.nodup hz hy (e.trans hye.symm)
          constructor
          · rintro (q | ⟨q1, q2⟩)
            · exact .inl q
            · exact .inr ⟨q1, fun z hz e => by rw [huniq z hz e]; exact q2⟩
          · rintro (q | ⟨q1, q2⟩)
            · exact .inl q
            · exact .inr ⟨q1, q2 y hy hye⟩)
        rw [List.take_add_one, List.getElem?_eq_getElem hi']
        exact hstep
    · rintro m' s' ⟨j1, ⟨tk', j2⟩, j3, sd', ks', j4, j5, j6, j7⟩ hn'
      refine wpAny_execs_nil ?_
      have hk : vs.toArray.size = (adj g n).length := by rw [List.size_toArray, hvs.length]
      rw [hk, List.take_length] at j7
      rw [j2]
      refine h _ _ m' sd' ks' (fun b o hb e => j3 b o ?_ e) hn' j1 j4 j5 j6 (j7.done hd.nodup)
      simp only [List.mem_cons, not_or] at hb ⊢
      exact ⟨hb.1, ne_of_get e hIn, hb.2⟩
  refine wpAny_execs_cons (For_J (by rfl) (by rfl) ?_)
  refine wpAny_Call_method2_late (by rfl) (by rfl) (by rfl) ?_
  refine nm_loc hn hmd ?_
  refine get2_dict (ne_sys hds) hd.1 ?_
  refine nm_loc hn hmn ?_
  refine wpAny_Tuple (wpAny_items_nil ⟨Nat.zero_le _, ?_⟩)
  dsimp only
  generalize hob : ({ cls := .type "tuple", data := .seq ([] : List Value).toArray } : Obj) = ob
  have kp : ∀ b o, s.heap.get? b = some o → (s.heap.push ob).get? b = some o := fun b o e => Heap.get?_push_of_some _ e
  have hTo : (s.heap.push ob).get? s.heap.objs.size = some ob := Heap.get?_push_size _ (by rw [← hob]; rfl)
  have hTn : s.heap.get? s.heap.objs.size = none := get_size s.heap
  generalize s.heap.objs.size = T₀ at hTo hTn ⊢
  generalize (s.heap.push ob) = h₁ at kp hTo ⊢
  have sx : ∀ {b : Addr} {h' : Heap}, (∀ b o, s.heap.get? b = some o → h'.get? b = some o) → h'.get? b = none → s.heap.get? b = none := fun {b h'} k e => by
    cases q : s.heap.get? b with
    | none => rfl
    | some o => rw [k _ _ q] at e; cases e
  refine ⟨n, tn, rfl, DictOf_at hd.1 (kp d), ?_⟩
  rw [valueAt_map (fun x : Addr × List Int => Value.ref x.1)]
  cases e : rget g n with
  | some y =>
    obtain ⟨vs, hp, hvs⟩ := hd.2 _ (rget_mem e)
    have hl : s.heap.IsList y.1 vs.toArray := hp.isList
    have hl₁ : h₁.IsList y.1 vs.toArray := hl.at (kp y.1)
    have hadj : adj g n = y.2 := by unfold adj; rw [e]; rfl
    refine wpAny_pyIter_list hl₁ ?_
    dsimp only
    have hIn : h₁.get? h₁.objs.size = none := get_size h₁
    generalize hio : ({ cls := .type "list_iterator", data := .fields #[.ref y.1, .int 0 0] } : Obj) = io
    have hIi : (h₁.push io).get? h₁.objs.size = some io := Heap.get?_push_size _ (by rw [← hio]; rfl)
    have k₂ : ∀ b o, h₁.get? b = some o → (h₁.push io).get? b = some o := fun b o e => Heap.get?_push_of_some _ e
    generalize h₁.objs.size = I at hIn hIi ⊢
    generalize (h₁.push io) = h₂ at hIi k₂ ⊢
    have hTI : y.1 ≠ I := ne_of_get' (IsList_live hl₁) hIn
    exact common { s with heap := h₂, toks := s.toks + 1 } y.1 I vs _ rfl rfl rfl (fun b o e => k₂ b o (kp b o e)) (sx kp hIn) (fun x hx => set_ne_list (hD.2 x hx) hl) (set_ne_list hS hl) (fun q => by
        obtain ⟨o, es, ep, ho, hdt, _⟩ := hn
        obtain ⟨o', ho', _, nn, hdt'⟩ := hl
        rw [q, ho'] at ho; cases ho; rw [hdt'] at hdt; cases hdt) (hadj ▸ hvs) (Walks.list (by exact hh) I y.1 hTI vs.toArray)
      ⟨⟨io, hIi, by rw [← hio]; exact ⟨rfl, rfl⟩⟩, hl₁.at (k₂ y.1)⟩
  | none =>
    have hadj : adj g n = [] := by unfold adj; rw [e]; rfl
    have hl₁ : h₁.IsTuple T₀ ([] : List Value).toArray := ⟨ob, hTo, by rw [← hob], 0, by rw [← hob]⟩
    refine wpAny_pyIter_tuple hl₁ ?_
    dsimp only
    have hIn : h₁.get? h₁.objs.size = none := get_size h₁
    generalize hio : ({ cls := .type "tuple_iterator", data := .fields #[.ref T₀, .int 0 0] } : Obj) = io
    have hIi : (h₁.push io).get? h₁.objs.size = some io := Heap.get?_push_size _ (by rw [← hio]; rfl)
    have k₂ : ∀ b o, h₁.get? b = some o → (h₁.push io).get? b = some o := fun b o e => Heap.get?_push_of_some _ e
    generalize h₁.objs.size = I at hIn hIi ⊢
    generalize (h₁.push io) = h₂ at hIi k₂ ⊢
    have hTI : T₀ ≠ I := ne_of_get hTo hIn
    exact common { s with heap := h₂, toks := s.toks + 1 } T₀ I [] _ rfl rfl rfl (fun b o e => k₂ b o (kp b o e)) (sx kp hIn) (fun x hx => ne_of_get' (hD.2 x hx).live hTn) (ne_of_get' hS.live hTn) (ne_of_get' (Ns_live hn) hTn) (hadj ▸ .nil)
      (Walks.tuple (by exact hh) I T₀ hTI ([] : List Value).toArray) ⟨⟨io, hIi, by rw [← hio]; exact ⟨rfl, rfl⟩⟩, let ⟨o, ho, r⟩ := hl₁; ⟨o, k₂ _ o ho, r⟩⟩
end
end Mine
end

-- part E4
section
open PySem PySem.W PyProof.Rows PySem.Calls
set_option maxRecDepth 100000
namespace Mine
section
variable {prog : Program} {w : World} {A : Around} {E : Value → Shared → Prop} {s : Shared}

def whileS : Stmt := (topoD.body[4]?).getD (.Pass ⟨0, 0, 0, 0⟩)

theorem LDict.fm {h h' : Heap} {W : List Addr} {d : Addr} {g : Rows3} (x : LDict prog w h d g) (k : Fm W h h') (hd : d ∉ W) (hr : ∀ y ∈ g, y.2.1 ∉ W) : LDict prog w h' d g :=
  ⟨DictOf_at x.1 fun o e => k d o hd e, fun y hy => let ⟨vs, a, b⟩ := x.2 y hy; ⟨vs, a.at fun o e => k _ o (hr y hy) e, b⟩⟩

theorem IntsAre_snoc : ∀ {vs : List Value} {ns : List Int} (k : Int) (t : Tok), IntsAre vs ns → IntsAre (vs ++ [.int k t]) (ns ++ [k])
  | _, _, k, t, .nil => .cons k t .nil
  | _, _, k, t, .cons n u r => .cons n u (IntsAre_snoc k t r)

set_option maxHeartbeats 4000000 in
theorem kahn_while {L a c D SS LL d : Addr} {m : Str → Option Value} {g sd : Rows3} {ks : List Int} {Q : Flow → Shared → Prop} (hh : A.handled = none)
    (hn : s.heap.Ns L m) (hmd : m "edges" = some (.ref d)) (hmS : m "S" = some (.ref SS)) (hmL : m "L" = some (.ref LL))
    (hd : LDict prog w s.heap d g) (hds : sysModules < d) (hcell : s.heap.IsCell (L + 1) (some (.ref D))) (hD : SDict prog w s.heap D sd) (hDs : sysModules < D) (hS : SetL w s.heap SS ks)
    (hLL : s.heap.PlainList LL ([] : List Value).toArray)
    (hgn : ∀ x ∈ g, x.2.2.Nodup) (hsz : g.length + sd.length < 900) (hap : (sd.map (·.2.1)).Nodup) (hoff : ∀ x ∈ sd, x.2.1 ≠ SS) (hDL : D ≠ L) (hdL : d ≠ L) (hgL : ∀ x ∈ g, x.2.1 ≠ LL) (K : KI g sd ks [])
    (h : ∀ h' tok dr m' sd' Lst vs, Fm (L :: LL :: SS :: sd.map (·.2.1)) s.heap h' → h'.Ns L m' → (∀ x : Str, x ≠ "m" → x ≠ "n" → m' x = m x) → SDict prog w h' D sd' → sd'.map (·.2.1) = sd.map (·.2.1) →
      h'.PlainList LL (List.toArray vs) → IntsAre vs Lst → KI g sd' [] Lst → Q .next { s with heap := h', toks := tok, drawn := dr }) :
    wpAny (model prog w) A (exec whileS (envOfC topoD.name topoD.scope L a (.ref c))) Q E s := by
  have hLLl : s.heap.IsList LL ([] : List Value).toArray := hLL.isList
  have hSL : SS ≠ L := set_ne_ns hS hn
  have hSLL : SS ≠ LL := set_ne_list hS hLLl
  have hSc : SS ≠ L + 1 := set_ne_cell hS hcell
  have hrL : ∀ x ∈ sd, x.2.1 ≠ L := fun x hx => set_ne_ns (hD.2 x hx) hn
  have hrLL : ∀ x ∈ sd, x.2.1 ≠ LL := fun x hx => set_ne_list (hD.2 x hx) hLLl
  have hrc : ∀ x ∈ sd, x.2.1 ≠ L + 1 := fun x hx => set_ne_cell (hD.2 x hx) hcell
  have hLLL : LL ≠ L := fun q => by
    obtain ⟨o, es, ep, ho, hdt, _⟩ := hn
    obtain ⟨o', ho', _, nn, hdt'⟩ := hLLl
    rw [q, ho] at ho'; cases ho'; rw [hdt] at hdt'; cases hdt'
  have hLLc : LL ≠ L + 1 := fun q => by
    obtain ⟨o, ho, hdt⟩ := hcell
    obtain ⟨o', ho', _, nn, hdt'⟩ := hLLl
    rw [q, ho] at ho'; cases ho'; rw [hdt] at hdt'; cases hdt'
  have hDLL : D ≠ LL := fun q => by
    obtain ⟨o, es, ep, ho, _, hdt, _⟩ := hD.1
    obtain ⟨o', ho', _, nn, hdt'⟩ := hLLl
    rw [q, ho'] at ho; cases ho; rw [hdt] at hdt'; cases hdt'
  have hdLL : d ≠ LL := fun q => by
    obtain ⟨o, es, ep, ho, _, hdt, _⟩ := hd.1
    obtain ⟨o', ho', _, nn, hdt'⟩ := hLLl
    rw [q, ho'] at ho; cases ho; rw [hdt] at hdt'; cases hdt'
  have hcW : L + 1 ∉ L :: LL :: SS :: sd.map (·.2.1) := by
    simp only [List.mem_cons, List.mem_map, not_or, not_exists, not_and]
    exact ⟨Nat.succ_ne_self L, Ne.symm hLLc, Ne.symm hSc, fun x hx => hrc x hx⟩
  have hdW : d ∉ L :: LL :: SS :: sd.map (·.2.1) := by
    simp only [List.mem_cons, List.mem_map, not_or, not_exists, not_and]
    exact ⟨hdL, hdLL, Ne.symm (set_ne_dict hS hd.1), fun x hx => set_ne_dict (hD.2 x hx) hd.1⟩
  have hgW : ∀ y ∈ g, y.2.1 ∉ L :: LL :: SS :: sd.map (·.2.1) := fun y hy => by
    obtain ⟨vs, hp, _⟩ := hd.2 y hy
    have hl := hp.isList
    simp only [List.mem_cons, List.mem_map, not_or, not_exists, not_and]
    refine ⟨fun q => ?_, hgL y hy, Ne.symm (set_ne_list hS hl), fun x hx => set_ne_list (hD.2 x hx) hl⟩
    obtain ⟨o, es, ep, ho, hdt, _⟩ := hn
    obtain ⟨o', ho', _, nn, hdt'⟩ := hl
    rw [q, ho] at ho'; cases ho'; rw [hdt] at hdt'; cases hdt'
  refine wpAny_While (codeAny_whileLoop (I := fun k s' => ∃ m' Lst vs sd' ks', (∃ tk dr, s' = { s with heap := s'.heap, toks := tk, drawn := dr }) ∧ k = g.length + sd.length + 1 - Lst.length ∧ s'.heap.Ns L m' ∧ (∀ x : Str, x ≠ "m" → x ≠ "n" → m' x = m x) ∧
    Fm (L :: LL :: SS :: sd.map (·.2.1)) s.heap s'.heap ∧ SDict prog w s'.heap D sd' ∧ sd'.map (·.2.1) = sd.map (·.2.1) ∧ SetL w s'.heap SS ks' ∧ s'.heap.PlainList LL (List.toArray vs) ∧ IntsAre vs Lst ∧ KI g sd' ks' Lst) ?_ (g.length + sd.length + 1) ?_)
  · rintro k s' ⟨m', Lst, vs, sd', ks', ⟨tk, dr, j1⟩, j2, j3, j4, j5, j6, j7, j8, j9, j10, j11⟩
    have hrow : ∀ y ∈ sd', ∃ x ∈ sd, x.2.1 = y.2.1 := fun y hy => by
      have : y.2.1 ∈ sd.map (·.2.1) := j7 ▸ List.mem_map_of_mem hy
      obtain ⟨x, hx, e⟩ := List.mem_map.mp this
      exact ⟨x, hx, e⟩
    have hlen' : sd'.length = sd.length := by simpa using congrArg List.length j7
    have hLlen : Lst.length ≤ g.length + sd.length := hlen' ▸ j11.len
    refine wpAny_isTrue_value (nm_loc j3 (by rw [j4 _ (by decide) (by decide)]; exact hmS) ?_) (by rfl)
    refine truthy_L j8 fun tk₁ => ?_
    cases hks : ks' with
    | nil =>
      simp only [List.isEmpty_nil, Bool.not_true, Bool.false_eq_true, if_false]
      refine wpAny_execs_nil ?_
      rw [hks] at j11
      have := h s'.heap tk₁ dr m' sd' Lst vs j5 j3 j4 j6 j7 j9 j10 j11
      rw [j1]; exact this
    | cons k0 kr =>
      simp only [List.isEmpty_cons, Bool.not_false, if_true]
      have hne : ks' ≠ [] := by rw [hks]; simp
      -- n = S.pop()
      refine wpAny_execs_cons (wpAny_Assign_Name (wpAny_Call_method0_late (by rfl) (by rfl) ?_))
      refine nm_loc j3 (by rw [j4 _ (by decide) (by decide)]; exact hmS) ?_
      refine methodOn_setpop (s := { s' with toks := tk₁ }) j8 hne fun h₁ dr₁ n u hnk hs₁ hS₁ => ?_
      replace hs₁ : Heap.SameBut SS s'.heap h₁ := hs₁
      dsimp only
      have hn₁ : h₁.Ns L m' := j3.sameBut hs₁ (Ne.symm hSL)
      refine st_loc (env := envOfC topoD.name topoD.scope L a (.ref c)) hn₁ (fun h₂ hn₂ hs₂ => ?_)
      replace hn₂ : h₂.Ns L (upd m' "n" (.int n u)) := hn₂
      replace hs₂ : Heap.SameBut L h₁ h₂ := hs₂
      dsimp only
      have f₂ : Fm (L :: LL :: SS :: sd.map (·.2.1)) s'.heap h₂ := (Fm.same hs₁ (by simp)).trans (Fm.same hs₂ (by simp))
      have hLL₂ : h₂.PlainList LL vs.toArray := j9.at fun o e => hs₂.extBut LL o hLLL (hs₁.extBut LL o (Ne.symm hSLL) e)
      -- L.append(n)
      refine wpAny_execs_cons (wpAny_Expr (wpAny_Call_method1_late (by rfl) (by rfl) (by rfl) ?_))
      refine nm_loc hn₂ (show upd m' "n" (.int n u) "L" = some (.ref LL) by rw [upd_ne (by decide), j4 _ (by decide) (by decide)]; exact hmL) ?_
      refine methodOn_append hLL₂ (nm_loc hn₂ upd_same ⟨vs.toArray, hLL₂, by rw [List.size_toArray, j10.length, sizeLine_eq]; omega, fun h₃ hl₃ hs₃ => ?_⟩)
      replace hs₃ : Heap.SameBut LL h₂ h₃ := hs₃
      dsimp only
      have f₃ : Fm (L :: LL :: SS :: sd.map (·.2.1)) s'.heap h₃ := f₂.trans (Fm.same hs₃ (by simp))
      have hn₃ : h₃.Ns L (upd m' "n" (.int n u)) := hn₂.sameBut hs₃ (Ne.symm hLLL)
      have fr : ∀ b o, b ≠ L → b ≠ LL → b ≠ SS → s'.heap.get? b = some o → h₃.get? b = some o := fun b o a1 a2 a3 e => hs₃.extBut b o a2 (hs₂.extBut b o a1 (hs₁.extBut b o a3 e))
      have hD₃ : SDict prog w h₃ D sd' := ⟨DictOf_at j6.1 fun o e => fr D o hDL hDLL (Ne.symm (set_ne_dict hS hD.1)) e, fun y hy => by
        obtain ⟨x, hx, ex⟩ := hrow y hy
        exact (j6.2 y hy).at fun o e => fr _ o (ex ▸ hrL x hx) (ex ▸ hrLL x hx) (ex ▸ hoff x hx) e⟩
      have hS₃ : SetL w h₃ SS (ks'.erase n) := hS₁.at fun o e => hs₃.extBut SS o hSLL (hs₂.extBut SS o hSL e)
      have hcell₃ : h₃.IsCell (L + 1) (some (.ref D)) := let ⟨o, ho, hdt⟩ := hcell; ⟨o, f₃ _ o hcW (j5 _ o hcW ho), hdt⟩
      have hd₃ : LDict prog w h₃ d g := hd.fm (j5.trans f₃) hdW hgW
      refine wpAny_mono (kahn_for (s := { s' with heap := h₃, toks := tk₁ + 1, drawn := dr₁ }) (a := a) (c := c) (g := g) (sd := sd') (ks := ks'.erase n) (Lst := Lst) (n := n) (tn := u) hh hn₃ (by rw [upd_ne (by decide), j4 _ (by decide) (by decide)]; exact hmd) (by rw [upd_ne (by decide), j4 _ (by decide) (by decide)]; exact hmS) upd_same
        hd₃ hds hcell₃ hD₃ hDs hS₃ hgn (by omega) (j7 ▸ hap) (fun x hx => let ⟨z, hz, e⟩ := hrow x hx; e ▸ hoff z hz) hDL (j11.pop j8.nodup hnk)
        (Q := fun f s₄ => f = .next ∧ ∃ h' tok m'' sd'' ks'', s₄ = { s' with heap := h', toks := tok, drawn := dr₁ } ∧ Fm (L :: SS :: sd'.map (·.2.1)) h₃ h' ∧ h'.Ns L m'' ∧ (∀ x : Str, x ≠ "m" → m'' x = upd m' "n" (.int n u) x) ∧ SDict prog w h' D sd'' ∧ sd''.map (·.2.1) = sd'.map (·.2.1) ∧ SetL w h' SS ks'' ∧ KI g sd'' ks'' (Lst ++ [n]))
        (fun h' tok m'' sd'' ks'' a1 a2 a3 a4 a5 a6 a7 => ⟨rfl, h', tok, m'', sd'', ks'', rfl, a1, a2, a3, a4, a5, a6, a7⟩)) ?_ fun _ _ e => e
      rintro f s₄ ⟨rfl, h', tok, m'', sd'', ks'', rfl, a1, a2, a3, a4, a5, a6, a7⟩
      have hlen'' : sd''.length = sd'.length := by simpa using congrArg List.length a5
      have hl2 := a7.len
      rw [List.length_append, List.length_singleton] at hl2
      refine ⟨_, ?_, m'', Lst ++ [n], vs ++ [Value.int n u], sd'', ks'', ⟨tok, dr₁, by rw [j1]⟩, rfl, a2, fun x hx1 hx2 => by rw [a3 x hx1, upd_ne hx2]; exact j4 x hx1 hx2, (j5.trans f₃).trans (a1.mono fun b hb => ?_), a4, a5.trans j7, a6, ?_, IntsAre_snoc n u j10, a7⟩
      · rw [List.length_append, List.length_singleton, j2]; omega
      · rw [j7] at hb
        simp only [List.mem_cons] at hb ⊢
        rcases hb with q | q | q
        · exact .inl q
        · exact .inr (.inr (.inl q))
        · exact .inr (.inr (.inr q))
      · have : h₃.PlainList LL (vs ++ [Value.int n u]).toArray := by simpa using hl₃
        refine this.at fun o e => a1 LL o ?_ e
        simp only [List.mem_cons, List.mem_map, not_or, not_exists, not_and]
        exact ⟨hLLL, Ne.symm hSLL, fun y hy => let ⟨x, hx, e⟩ := hrow y hy; e ▸ hrLL x hx⟩
  · exact ⟨m, [], [], sd, ks, ⟨s.toks, s.drawn, rfl⟩, by simp, hn, fun _ _ _ => rfl, Fm.refl, hD, rfl, hS, hLL, .nil, K⟩
end
end Mine
end

-- part E5
section
open PySem PySem.W PyProof.Rows PySem.Calls
set_option maxRecDepth 100000
namespace Mine
section
variable {prog : Program} {w : World} {A : Around} {E : Value → Shared → Prop} {s : Shared} {env : Env}

theorem st_cell {x : Str} {c : Addr} {v₀ : Option Value} {v : Value} {Q : Unit → Shared → Prop} (hc : env.cells.lookup x = some c) (hv : s.heap.IsCell c v₀)
    (h : ∀ h', h'.IsCell c (some v) → Heap.SameBut c s.heap h' → Q () { s with heap := h' }) (hk : env.scope.kind = .function := by rfl) (hl : env.kindOf x = some .cell := by rfl) :
    wpAny (model prog w) A (storeName env x v) Q E s := wpAny_storeName_cell hk hl hc hv h

theorem Fm.but {W : List Addr} {h₀ h₁ h₂ : Heap} {a : Addr} (f : Fm W h₀ h₁) (x : Heap.SameBut a h₁ h₂) (ha : h₀.get? a = none) : Fm W h₀ h₂ :=
  fun b o hb e => x.extBut b o (ne_of_get e ha) (f b o hb e)
theorem Fm.more {W W' : List Addr} {h₀ h₁ h₂ : Heap} (f : Fm W h₀ h₁) (x : Fm W' h₁ h₂) (ha : ∀ b ∈ W', b ∈ W ∨ h₀.get? b = none) : Fm W h₀ h₂ :=
  fun b o hb e => x b o (fun q => (ha b q).elim hb fun z => by rw [z] at e; cases e) (f b o hb e)
theorem Fm.none {W : List Addr} {h₀ h₁ : Heap} {a : Addr} (f : Fm W h₀ h₁) (ha : a ∉ W) (e : h₁.get? a = none) : h₀.get? a = none := by
  cases q : h₀.get? a with
  | none => rfl
  | some o => rw [f a o ha q] at e; cases e

set_option maxHeartbeats 4000000 in
theorem topo_spec {R : Result → Shared → Prop} {a c P d L₀ : Addr} {o : Obj} {pm doc : Value} {g : Rows3} {mg mb m₀ : Str → Option Value} {lenv : Env}
    (hh : A.handled = none) (hroom : A.depth + 1 < recursionLimit) (hfr : A.frames = some [lenv]) (hlf : lenv.frame = some L₀) (hlk : lenv.scope.kind ≠ .module) (hln : s.heap.Ns L₀ m₀)
    (ho : s.heap.get? a = some o) (hdata : o.data = .func (docDef topoD.name topoD.params topoD.body topoD.scope pm (.ref c) doc)) (hcd : s.heap.CodeRec (.ref c) topoD.name)
    (G : Gl mg mb s.heap) (B : BM s.heap mg)
    (hrev : ∃ a o pm cd doc, mg "reverse_dict" = some (.ref a) ∧ s.heap.get? a = some o ∧ o.data = .func (docDef revD.name revD.params revD.body revD.scope pm cd doc) ∧ s.heap.CodeRec cd revD.name)
    (hmt : mg "tuple" = none) (hms : mg "set" = none) (hmd : mg "dict" = none) (hma : mg "any" = none) (hmv : mg "ValueError" = none)
    (hok : s.heap.IsCode c P #[]) (htab : s.heap.TableAt c P #[]) (hbare : AllBare s.gens)
    (hd : LDict prog w s.heap d g) (hds : sysModules < d) (hgn : ∀ x ∈ g, x.2.2.Nodup) (hsz : g.length < 50) (hes : (edg g).length < 100)
    (hret : ∀ h' tok dr gens' LL vs Lst ps', Fm [P] s.heap h' → h'.TableAt c P ps' → AllBare gens' → s.heap.get? LL = none → h'.PlainList LL (List.toArray vs) → IntsAre vs Lst → KOk g Lst →
      R (.ok (.ret (.ref LL))) { s with heap := h', toks := tok, drawn := dr, gens := gens' })
    (hbad : ∀ h' hb e t tok dr gens' ps', Fm [P] s.heap hb → hb.TableAt c P ps' → AllBare gens' → KBad g → Heap.FlyingW (hideAll hb [s.heap.objs.size, L₀]) [lenv] e (.type "ValueError") (.ref t) h' → hb.UpToSlots h' →
      R (.error (.ref e)) { s with heap := h', toks := tok, drawn := dr, gens := gens' }) :
    codeAny (model prog w) A (.call (.ref a) ⟨[.ref d], []⟩) R s := by
  refine call_cells (binds := [("edges", .ref d)]) (by omega) ho hdata G.nl hcd (by rfl) (by intro x hx; simp at hx; subst hx; exact .inl rfl) (fun h₁ tk₁ F X => ?_)
  have k₁ := F.keep
  have hn := F.ns
  have hcell := X.cell "incoming_edges" (s.heap.objs.size + 1) (by rfl)
  have hLnew : s.heap.get? s.heap.objs.size = none := get_size s.heap
  have hCnew : s.heap.get? (s.heap.objs.size + 1) = none := Heap.get?_none_of_le (Nat.le_succ _)
  generalize hL : s.heap.objs.size = L at hn hcell hLnew hCnew hbad ⊢
  generalize hm : bindL (envOfC topoD.name topoD.scope L a (.ref c)).kindOf [(("edges" : Str), Value.ref d)] (fun _ => none) = m at hn
  generalize bindC (envOfC topoD.name topoD.scope L a (.ref c)).kindOf [(("edges" : Str), Value.ref d)] (fun _ => none) "incoming_edges" = v₀ at hcell
  have hmd' : m "edges" = some (.ref d) := by rw [← hm]; rfl
  have hh1 : (A.deeper (envOfC topoD.name topoD.scope L a (.ref c))).handled = none := hh
  have hroom1 : (A.deeper (envOfC topoD.name topoD.scope L a (.ref c))).depth < recursionLimit := hroom
  have hPl : ∃ o, s.heap.get? P = some o := ⟨_, htab.2⟩
  have hLP : L ≠ P := fun q => by obtain ⟨o, e⟩ := hPl; rw [← q, hLnew] at e; cases e
  have hCP : L + 1 ≠ P := fun q => by obtain ⟨o, e⟩ := hPl; rw [← q, hCnew] at e; cases e
  have hdP : d ≠ P := dict_off htab hd.1
  have hgP : ∀ x ∈ g, x.2.1 ≠ P := fun x hx => let ⟨vs, h1, _⟩ := hd.2 x hx; list_off htab h1.isList
  -- incoming_edges = reverse_dict(edges)
  obtain ⟨ra, ro, rpm, rcd, rdoc, r1, r2, r3, r4⟩ := hrev
  refine wpAny_execs_cons (wpAny_Assign_Name (Call_ (nm_glob (G.keeps k₁) r1 ?_)))
  refine PyProof.Rows.callWith_def (h := ?_) r3
  refine PyProof.Rows.args_cons (nm_loc hn hmd' (PyProof.Rows.args_nil ⟨k₁ _ _ r2, ?_⟩))
  refine wpAny_call (rev_spec (s := { s with heap := h₁, toks := tk₁ }) hh1 hroom1 (k₁ _ _ r2) r3 (G.keeps k₁) (r4.keeps k₁) hmt (hd.keeps k₁) hds (by omega) fun h₂ tk₂ R₀ rd k₂ hRn hRs hRd hRI hRoff => ?_)
  replace k₂ : ∀ b o, h₁.get? b = some o → h₂.get? b = some o := k₂
  replace hRn : h₁.get? R₀ = none := hRn
  have hR₀s : s.heap.get? R₀ = none := Fm.none (W := []) (Fm.keep k₁) (by simp) hRn
  have hcell₂ := hcell.keeps k₂
  have hCR : L + 1 ≠ R₀ := ne_of_get' (let ⟨o, e, _⟩ := hcell; ⟨o, e⟩) hRn
  have hCrow : ∀ x ∈ rd, x.2.1 ≠ L + 1 := fun x hx => Ne.symm (ne_of_get' (let ⟨o, e, _⟩ := hcell; ⟨o, e⟩) (hRoff x hx).2)
  refine st_cell (c := L + 1) (by rfl) hcell₂ (fun h₃ hcell₃ hs₃ => ?_)
  replace hs₃ : Heap.SameBut (L + 1) h₂ h₃ := hs₃
  have hn₃ : h₃.Ns L m := (hn.keeps k₂).sameBut hs₃ (Nat.ne_of_lt (Nat.lt_succ_self L))
  have f₃ : Fm [P] s.heap h₃ := (Fm.keep fun b o e => k₂ b o (k₁ b o e) : Fm [P] s.heap h₂).but hs₃ hCnew
  have k₃ : ∀ b o, s.heap.get? b = some o → h₃.get? b = some o := fun b o e => hs₃.extBut b o (ne_of_get e hCnew) (k₂ b o (k₁ b o e))
  have hRd₃ : TDict prog w h₃ R₀ rd := hRd.fm (Fm.same hs₃ (List.mem_singleton.mpr rfl)) (by simpa using Ne.symm hCR) fun x hx => by simpa using hCrow x hx
  have hrdl : rd.length < 100 := Nat.lt_of_le_of_lt hRI.size hes
  -- incoming_edges = dict(...)
  refine wpAny_execs_cons (wpAny_Assign_Name ?_)
  refine topo_sets (s := { s with heap := h₃, toks := tk₂ }) hh1 hroom1 rfl hcell₃ hRd₃ hRs (fun x hx => by have := hRI.len x hx; omega) (by omega) (G.keeps k₃) (B.keeps k₃) hms hmd (hok.keeps k₃) (htab.keeps k₃) (by rfl) hbare
    fun h₄ tk₄ gens₄ D sd c₁ f₄ hDn hSD hsk hsr hsn hsoff hok₄ htab₄ hb₄ hDs => ?_
  replace f₄ : Fm [P] h₃ h₄ := f₄
  replace hDn : h₃.get? D = none := hDn
  dsimp only
  have hcell₄ : h₄.IsCell (L + 1) (some (.ref R₀)) := let ⟨o, e, r⟩ := hcell₃; ⟨o, f₄ _ o (by simpa using hCP) e, r⟩
  have hDC : D ≠ L + 1 := Ne.symm (ne_of_get' (let ⟨o, e, _⟩ := hcell₃; ⟨o, e⟩) hDn)
  have hDL : D ≠ L := Ne.symm (ne_of_get' (Ns_live hn₃) hDn)
  have hsC : ∀ y ∈ sd, y.2.1 ≠ L + 1 := fun y hy => Ne.symm (ne_of_get' (let ⟨o, e, _⟩ := hcell₃; ⟨o, e⟩) (hsoff y hy).2)
  refine st_cell (c := L + 1) (by rfl) hcell₄ (fun h₅ hcell₅ hs₅ => ?_)
  replace hs₅ : Heap.SameBut (L + 1) h₄ h₅ := hs₅
  dsimp only
  have hn₅ : h₅.Ns L m := (hn₃.at' fun o e => f₄ L o (by simpa using hLP) e).sameBut hs₅ (Nat.ne_of_lt (Nat.lt_succ_self L))
  have f₅ : Fm [P] s.heap h₅ := (f₃.trans f₄).but hs₅ hCnew
  have hSD₅ : SDict prog w h₅ D sd := hSD.fm (Fm.same hs₅ (List.mem_singleton.mpr rfl)) (by simpa using hDC) fun y hy => by simpa using hsC y hy
  have hcne : c ≠ L + 1 := ne_of_get' (isCode_live hok) hCnew
  have hok₅ := isCode_at hok₄ (fun o e => hs₅.extBut c o hcne e) (fun o e => hs₅.extBut P o (Ne.symm hCP) e)
  have htab₅ := tabAt_at htab₄ (fun o e => hs₅.extBut c o hcne e) (fun o e => hs₅.extBut P o (Ne.symm hCP) e)
  have hdl : LDict prog w h₅ d g := hd.fm f₅ (by simpa using hdP) fun x hx => by simpa using hgP x hx
  have hsdl : sd.length = rd.length := by simpa using congrArg List.length hsk
  have hDs' : s.heap.get? D = none := Fm.none (Fm.keep k₃ : Fm [] s.heap h₃) (by simp) hDn
  -- S = set(...)
  refine wpAny_execs_cons (wpAny_Assign_Name ?_)
  refine topo_roots (s := { s with heap := h₅, toks := tk₄, gens := gens₄ }) hh1 hroom1 hn₅ hmd' hdl hds (by omega) hcell₅ hSD₅ hDs (G.off htab f₅) (B.off htab f₅) hms hok₅ htab₅ (by rfl) hb₄ fun h₆ tk₆ gens₆ S ks c₂ f₆ hSn hSL hks hok₆ htab₆ hb₆ => ?_
  replace f₆ : Fm [P] h₅ h₆ := f₆
  replace hSn : h₅.get? S = none := hSn
  dsimp only
  have hn₆ : h₆.Ns L m := hn₅.at' fun o e => f₆ L o (by simpa using hLP) e
  refine st_loc (env := envOfC topoD.name topoD.scope L a (.ref c)) hn₆ (fun h₇ hn₇ hs₇ => ?_)
  replace hn₇ : h₇.Ns L (upd m "S" (.ref S)) := hn₇
  replace hs₇ : Heap.SameBut L h₆ h₇ := hs₇
  dsimp only
  have f₇ : Fm [P] s.heap h₇ := (f₅.trans f₆).but hs₇ hLnew
  have hSLne : S ≠ L := Ne.symm (ne_of_get' (Ns_live hn₅) hSn)
  have hcL : c ≠ L := ne_of_get' (isCode_live hok) hLnew
  -- L = []
  refine wpAny_execs_cons (wpAny_Assign_Name (wpAny_List (wpAny_items_nil ⟨Nat.zero_le _, ?_⟩)))
  dsimp only
  generalize hob : ({ cls := .type "list", data := .seq ([] : List Value).toArray } : Obj) = ob
  have hLLo : (h₇.push ob).PlainList h₇.objs.size ([] : List Value).toArray := by rw [← hob]; exact ⟨0, Heap.get?_push_size _ rfl⟩
  have hLLn : h₇.get? h₇.objs.size = none := get_size h₇
  have kp : ∀ b o, h₇.get? b = some o → (h₇.push ob).get? b = some o := fun b o e => Heap.get?_push_of_some _ e
  generalize h₇.objs.size = LL at hLLo hLLn ⊢
  generalize (h₇.push ob) = h₈ at hLLo kp ⊢
  refine st_loc (env := envOfC topoD.name topoD.scope L a (.ref c)) (hn₇.keeps kp) (fun h₉ hn₉ hs₉ => ?_)
  replace hn₉ : h₉.Ns L (upd (upd m "S" (.ref S)) "L" (.ref LL)) := hn₉
  replace hs₉ : Heap.SameBut L h₈ h₉ := hs₉
  dsimp only
  have f₉ : Fm [P] s.heap h₉ := ((f₇.trans (Fm.keep kp)).but hs₉ hLnew)
  have g₉ : ∀ b o, b ≠ L → h₆.get? b = some o → h₉.get? b = some o := fun b o hb e => hs₉.extBut b o hb (kp b o (hs₇.extBut b o hb e))
  have hLLL : LL ≠ L := Ne.symm (ne_of_get' (Ns_live hn₇) hLLn)
  have hLLs : s.heap.get? LL = none := by
    cases q : s.heap.get? LL with
    | none => rfl
    | some o =>
      have hLLP : LL ≠ P := fun e => by
        have e2 := hs₇.extBut P _ (Ne.symm hLP) htab₆.2
        rw [← e, hLLn] at e2; cases e2
      rw [f₇ LL o (by simpa using hLLP) q] at hLLn; cases hLLn
  have hSs : s.heap.get? S = none := by
    cases q : s.heap.get? S with
    | none => rfl
    | some o =>
      have hSP : S ≠ P := fun e => by rw [e, htab₅.2] at hSn; cases hSn
      rw [f₅ S o (by simpa using hSP) q] at hSn; cases hSn
  have hSDl : ∀ y ∈ sd, y.2.1 ≠ S := fun y hy => ne_of_get' (hSD₅.2 y hy).live hSn
  have hyP : ∀ y ∈ sd, y.2.1 ≠ P := fun y hy e => by have := (hsoff y hy).2; rw [e, k₃ _ _ htab.2] at this; cases this
  have hyL : ∀ y ∈ sd, y.2.1 ≠ L := fun y hy => set_ne_ns (hSD₅.2 y hy) hn₅
  have hDP : D ≠ P := dict_off htab₅ hSD₅.1
  have hSD₉ : SDict prog w h₉ D sd := ⟨DictOf_at hSD₅.1 fun o e => g₉ D o hDL (f₆ D o (by simpa using hDP) e), fun y hy => (hSD₅.2 y hy).at fun o e => g₉ _ o (hyL y hy) (f₆ _ o (by simpa using hyP y hy) e)⟩
  have hS₉ : SetL w h₉ S ks := hSL.at fun o e => g₉ S o hSLne e
  have hcell₉ : h₉.IsCell (L + 1) (some (.ref D)) := let ⟨o, e, r⟩ := hcell₅; ⟨o, g₉ _ o (Nat.succ_ne_self L) (f₆ _ o (by simpa using hCP) e), r⟩
  have hLL₉ : h₉.PlainList LL ([] : List Value).toArray := hLLo.at fun o e => hs₉.extBut LL o hLLL e
  have hd₉ : LDict prog w h₉ d g := hd.fm f₉ (by simpa using hdP) fun x hx => by simpa using hgP x hx
  have hdL : d ≠ L := ne_of_get' (DictOf_live hd.1) hLnew
  have hgLL : ∀ x ∈ g, x.2.1 ≠ LL := fun x hx => let ⟨vs, h1, _⟩ := hd.2 x hx; ne_of_get' (IsList_live h1.isList) hLLs
  have K₀ : KI g sd ks [] := by
    have skeys : ∀ m, m ∈ sd.map (·.1) ↔ ∃ u, (u, m) ∈ edg g := fun m => by rw [hsk]; exact hRI.keys m
    refine ⟨skeys, fun y hy u => ?_, fun x => ?_, .nil, fun x hx => (nomatch hx), fun i x hx => by simp at hx⟩
    · obtain ⟨x, hx, e, hk⟩ := hsr y hy
      rw [hk u, hRI.row x hx u, e]; simp
    · rw [hks x, skeys x]
      simp only [List.not_mem_nil, not_false_eq_true, true_and]
      constructor
      · rintro ⟨h1, h2⟩; exact ⟨.inl h1, fun u hu => h2 ⟨u, hu⟩⟩
      · rintro ⟨h1, h2⟩; exact ⟨h1.elim id fun ⟨u, hu⟩ => absurd hu (h2 u), fun ⟨u, hu⟩ => h2 u hu⟩
  -- the loop
  refine wpAny_execs_cons (kahn_while (s := { s with heap := h₉, toks := tk₆ + 1 + 1, gens := gens₆ }) (a := a) (c := c) hh1 hn₉ (by rw [upd_ne (by decide), upd_ne (by decide)]; exact hmd') (by rw [upd_ne (by decide)]; exact upd_same) upd_same hd₉ hds hcell₉ hSD₉ hDs hS₉ hLL₉ hgn (by omega) hsn hSDl hDL hdL hgLL K₀ ?_)
  intro hA tkA drA mA sdA Lst vsA fA hnA hmA hSDA hadA hLLA hvA KA
  replace fA : Fm (L :: LL :: S :: sd.map (·.2.1)) h₉ hA := fA
  dsimp only
  have hWs : ∀ b ∈ L :: LL :: S :: sd.map (·.2.1), s.heap.get? b = none ∧ b ≠ P ∧ b ≠ c ∧ b ≠ L + 1 ∧ b ≠ D := fun b hb => by
    have key : ∀ b, s.heap.get? b = none → b ≠ L + 1 → b ≠ D → s.heap.get? b = none ∧ b ≠ P ∧ b ≠ c ∧ b ≠ L + 1 ∧ b ≠ D := fun b h1 h2 h3 => ⟨h1, Ne.symm (ne_of_get' hPl h1), Ne.symm (ne_of_get' (isCode_live hok) h1), h2, h3⟩
    simp only [List.mem_cons, List.mem_map] at hb
    rcases hb with q | q | q | ⟨y, hy, q⟩
    · rw [q]; exact key _ hLnew (Nat.ne_of_lt (Nat.lt_succ_self L)) (Ne.symm hDL)
    · rw [q]
      refine key _ hLLs (fun z => ?_) (fun z => ?_)
      · obtain ⟨o, e, hdt⟩ := hcell₉
        obtain ⟨n, e2⟩ := hLL₉
        rw [z, e] at e2; cases e2; cases hdt
      · obtain ⟨o, es, ep, e, _, hdt, _⟩ := hSD₉.1
        obtain ⟨n, e2⟩ := hLL₉
        rw [z, e] at e2; cases e2; cases hdt
    · rw [q]; exact key _ hSs (set_ne_cell hS₉ hcell₉) (set_ne_dict hS₉ hSD₉.1)
    · rw [← q]; exact key _ (Fm.none (Fm.keep k₃ : Fm [] s.heap h₃) (by simp) (hsoff y hy).2) (hsC y hy) (set_ne_dict (hSD₉.2 y hy) hSD₉.1)
  have fA' : Fm [P] s.heap hA := f₉.more fA fun b hb => .inr (hWs b hb).1
  have atA : ∀ b, (∀ x ∈ L :: LL :: S :: sd.map (·.2.1), b ≠ x) → ∀ o, h₉.get? b = some o → hA.get? b = some o := fun b hb o e => fA b o (fun q => hb b q rfl) e
  have hok₉ := isCode_at hok₆ (fun o e => g₉ c o hcL e) (fun o e => g₉ P o (Ne.symm hLP) e)
  have htab₉ := tabAt_at htab₆ (fun o e => g₉ c o hcL e) (fun o e => g₉ P o (Ne.symm hLP) e)
  have hokA := isCode_at hok₉ (atA c fun x hx => Ne.symm (hWs x hx).2.2.1) (atA P fun x hx => Ne.symm (hWs x hx).2.1)
  have htabA := tabAt_at htab₉ (atA c fun x hx => Ne.symm (hWs x hx).2.2.1) (atA P fun x hx => Ne.symm (hWs x hx).2.1)
  have hcellA : hA.IsCell (L + 1) (some (.ref D)) := let ⟨o, e, r⟩ := hcell₉; ⟨o, atA _ (fun x hx => Ne.symm (hWs x hx).2.2.2.1) o e, r⟩
  have hdA : LDict prog w hA d g := hd.fm fA' (by simpa using hdP) fun x hx => by simpa using hgP x hx
  -- if any(...)
  refine wpAny_execs_cons (wpAny_If (wpAny_isTrue_value ?_ (by rfl)))
  refine topo_any (s := { s with heap := hA, toks := tkA, drawn := drA, gens := gens₆ }) hh1 hroom1 hnA (by rw [hmA _ (by decide) (by decide), upd_ne (by decide), upd_ne (by decide)]; exact hmd') hdA hds hcellA hSDA hDs (G.off htab fA') (B.off htab fA') hma hokA htabA (by rfl) hb₆ fun hB tkB gensB b c₃ fB hbB hokB htabB hbareB => ?_
  replace fB : Fm [P] hA hB := fB
  dsimp only
  refine wpAny_truthy_bool ?_
  have fB' : Fm [P] s.heap hB := fA'.trans fB
  have hnB : hB.Ns L mA := hnA.at' fun o e => fB L o (by simpa using hLP) e
  cases hbv : b with
  | true =>
    simp only [if_true]
    have hbad' := KA.bad (hbB.mp hbv)
    refine wpAny_execs_cons (Raise_madeB PySem.F.excCall_ValueError PySem.F.excRaise_ValueError hh1 (nm_built (G.off htab fB') hmv (by rfl) ⟨rfl, ?_⟩))
    refine PyProof.Rows.args_cons (wpAny_Constant_str (PyProof.Rows.args_nil ⟨by rw [sizeLine_eq]; simp, fun h' e hx => ?_⟩))
    dsimp only at hx ⊢
    have hlnB : hB.Ns L₀ m₀ := hln.at' fun o e => fB' L₀ o (by simpa using ns_off htab hln) e
    have hst : (hideAll hB [L, L₀]).StaysIn hB := fun b o e => of_hideAll _ e
    refine wpAny_leaves_madeW (base := hideAll hB [L, L₀]) (h := hB) (L := L) (Around.frames_deeper hfr) (by rfl) hst (Heap.FunFrames.cons (show topoD.scope.kind ≠ .module by decide) (by rfl) hnB (hideAll_none _ (by simp)) (Heap.FunFrames.cons hlk hlf hlnB (hideAll_none _ (by simp)) trivial))
      ⟨hx.keeps, hx.new, hx.there⟩ fun h'' t x1 x2 x3 x4 => ?_
    exact hbad h'' hB e t _ _ _ _ fB' htabB hbareB hbad' x1 ((Heap.UpToSlots.of_keeps hx.keeps).trans x4)
  | false =>
    simp only [Bool.false_eq_true, if_false]
    refine wpAny_execs_nil ?_
    have hgood := KA.good (fun h => by have := hbB.mpr h; rw [hbv] at this; cases this)
    refine wpAny_execs_cons (wpAny_Return_some (nm_loc hnB (show mA "L" = some (.ref LL) by rw [hmA _ (by decide) (by decide)]; exact upd_same) ?_))
    have hLLP : LL ≠ P := fun e => by rw [e, htab.2] at hLLs; cases hLLs
    exact hret hB _ _ _ LL vsA Lst _ fB' htabB hbareB hLLs (hLLA.at fun o e => fB LL o (by simpa using hLLP) e) hvA hgood
end
end Mine
end

-- part F1
section
open PySem PySem.W PyProof.Rows PySem.Calls
set_option maxRecDepth 100000
namespace Mine
section
variable {prog : Program} {w : World} {A : Around} {E : Value → Shared → Prop} {s : Shared} {env : Env}

theorem valueAt_ref {g : Rows3} (hk : (g.map (·.1)).Nodup) {x : Int × Addr × List Int} (hx : x ∈ g) : valueAt (g.map fun x => (x.1, Value.ref x.2.1)) x.1 = some (.ref x.2.1) := by
  rw [valueAt_map (fun x : Addr × List Int => Value.ref x.1), rget_of_mem hk (show (x.1, x.2) ∈ g from hx)]; rfl

theorem hits_of {s : Shared} {d2 : Addr} {g2 : Rows3} (h2 : LDict prog w s.heap d2 g2) (hu : A.in1.units + 64 < cLine) :
    ∀ g1 : Rows3, (∀ x ∈ g1, ∃ y ∈ g2, y.1 = x.1 ∧ y.2.2 = x.2.2) → (∀ x ∈ g1, ∃ vs, s.heap.PlainList x.2.1 (List.toArray vs) ∧ IntsAre vs x.2.2) →
      KeqHits A.in1 s (g2.map fun x => (x.1, Value.ref x.2.1)) (g1.map fun x => (x.1, Value.ref x.2.1)) true
  | [], _, _ => .nil
  | x :: r, h, hr => by
    obtain ⟨y, hy, e1, e2⟩ := h x (.head _)
    obtain ⟨vs, p1, p2⟩ := hr x (.head _)
    obtain ⟨us, q1, q2⟩ := h2.2 y hy
    have hv := valueAt_ref h2.nodup hy
    rw [e1] at hv
    refine KeqHits.hit (e := true) (b := true) hv ?_ (hits_of h2 hu r (fun z hz => h z (.tail _ hz)) fun z hz => hr z (.tail _ hz))
    have := keq_ints (A := A) p1.isList p2 q1.isList q2 hu
    rw [e2, decide_eq_true rfl] at this
    exact this

/-- two dicts of the same rows -/
theorem eq_ldicts {a b : Addr} {ga gb : Rows3} {Q : Value → Shared → Prop} (ha : sysModules < a) (hb : sysModules < b) (da : LDict prog w s.heap a ga) (db : LDict prog w s.heap b gb)
    (hl : ga.length = gb.length) (hg : ∀ x ∈ ga, ∃ y ∈ gb, y.1 = x.1 ∧ y.2.2 = x.2.2) (hu : A.units + 72 < cLine) (h : Q (.bool true) s) : wpAny (model prog w) A (compareOp .Eq (.ref a) (.ref b)) Q E s := by
  refine keq_eq (knd := intKind prog w) (ne_sys ha) (ne_sys hb) da.1 db.1 (by omega) (r := true) (fun _ => hits_of db ?_ ga hg da.2) ?_
  · show A.units + 1 + 64 < cLine
    omega
  · rw [List.length_map, List.length_map, hl]; simpa using h
theorem ne_ldicts {a b : Addr} {ga gb : Rows3} {Q : Value → Shared → Prop} (ha : sysModules < a) (hb : sysModules < b) (da : LDict prog w s.heap a ga) (db : LDict prog w s.heap b gb)
    (hl : ga.length = gb.length) (hg : ∀ x ∈ ga, ∃ y ∈ gb, y.1 = x.1 ∧ y.2.2 = x.2.2) (hu : A.units + 72 < cLine) (h : Q (.bool false) s) : wpAny (model prog w) A (compareOp .NotEq (.ref a) (.ref b)) Q E s := by
  refine keq_ne (knd := intKind prog w) (ne_sys ha) (ne_sys hb) da.1 db.1 (by omega) (r := true) (fun _ => hits_of db ?_ ga hg da.2) ?_
  · show A.units + 1 + 64 < cLine
    omega
  · rw [List.length_map, List.length_map, hl]; simpa using h
end
end Mine
end

-- part F2
section
open PySem PySem.W PyProof.Rows PySem.Calls
set_option maxRecDepth 100000
namespace Mine
section
variable {prog : Program} {w : World} {A : Around} {E : Value → Shared → Prop} {s : Shared} {env : Env}

/-- ints of an iterator: the i-th is ns[i] -/
structure Src (prog : Program) (w : World) (A : Around) (I : Addr) (fp : List Addr) (ns : List Int) (P : Nat → Value → Prop) (St : Nat → Heap → Prop) : Prop where
  W : Walks prog w A I fp [I] ns.length P St
  val : ∀ i v, P i v → ∃ k t, v = .int k t ∧ ns[i]? = some k

theorem Src.list {I l : Addr} {vs : List Value} {ns : List Int} (hh : A.handled = none) (hne : l ≠ I) (hi : IntsAre vs ns) :
    Src prog w A I [I, l] ns (fun i v => vs.toArray[i]? = some v) (fun i h => h.IsListIter I l i ∧ h.IsList l vs.toArray) where
  W := by
    have := Walks.list (prog := prog) (w := w) (A := A) hh I l hne vs.toArray
    rwa [List.size_toArray, hi.length] at this
  val := fun i v h => by
    have h' : vs[i]? = some v := by simpa using h
    have hlt : i < ns.length := by rw [← hi.length]; exact (List.getElem?_eq_some_iff.mp h').1
    obtain ⟨t, e⟩ := hi.get i ns[i] (by simp)
    rw [e] at h'
    exact ⟨ns[i], t, (Option.some.inj h').symm, by simp⟩
theorem Src.keys {I d : Addr} {g : Rows3} (ep : Nat) (hh : A.handled = none) (hne : d ≠ I) :
    Src prog w A I [I, d] (g.map (·.1)) (fun i v => ∃ k x, (g.map fun x => (x.1, Value.ref x.2.1))[i]? = some (k, x) ∧ (intKind prog w).is k v = true)
      (fun i h => h.IsKeyIter I d i (g.map fun x => (x.1, Value.ref x.2.1)).length ep ∧ h.DictAt (intKind prog w) d (g.map fun x => (x.1, Value.ref x.2.1)) ep) where
  W := by
    have := Walks.dictKeys (prog := prog) (w := w) (A := A) (knd := intKind prog w) hh I d hne (g.map fun x => (x.1, Value.ref x.2.1)) ep
    rw [List.length_map] at this
    rw [List.length_map]
    have e : (g.map fun x => (x.1, Value.ref x.2.1)).length = g.length := List.length_map ..
    rw [e]
    exact this
  val := fun i v h => by
    obtain ⟨k, x, hx, hv⟩ := h
    obtain ⟨t, rfl⟩ := Value.isInt_shape hv
    rw [List.getElem?_map, Option.map_eq_some_iff] at hx
    obtain ⟨y, hy, e⟩ := hx
    cases e
    exact ⟨y.1, t, rfl, by rw [List.getElem?_map, hy]; rfl⟩

set_option maxHeartbeats 1000000 in
/-- [x for x in ints if test] -/
theorem filt_at {x : Str} {pe px : Pos} {iter test : Expr} {scope : Scope} {cl : List (Str × Addr)} {pos : Pos} {I : Addr} {fp : List Addr} {ns : List Int} {P : Nat → Value → Prop} {St : Nat → Heap → Prop} {p : Int → Bool} {RR : Value → Addr → Result → Shared → Prop}
    (S : Src prog w A I fp ns P St) (hst : St 0 s.heap) (hfp : ∀ b ∈ fp, ∃ o, s.heap.get? b = some o) (hIfp : I ∈ fp) (hnl : ns.length < 900) (hx : ∀ C, (compEnvC scope cl C env).kindOf x = some .local) (hkind : scope.kind = .function) (hdb : (x == ("__debug__" : Str)) = false)
    (hlet : ∀ v, letOwnedTupleGo (.Name x px) (.ref I) v = pure ())
    (htest : ∀ C (s' : Shared) m k t, k ∈ ns → s'.heap.Ns C m → m x = some (.int k t) → (∀ b o, b ≠ I → s.heap.get? b = some o → s'.heap.get? b = some o) →
      wpAny (model prog w) A (isTrue test (compEnvC scope cl C env) (eval test (compEnvC scope cl C env))) (fun ok s₃ => ok = p k ∧ Keeps s' s₃) (fun _ _ => False) s')
    (hpost : ∀ D C h' tk vs mc, s.heap.get? D = none → s.heap.get? C = none → D ≠ C → (∀ b o, b ≠ I → s.heap.get? b = some o → h'.get? b = some o) → h'.PlainList D (List.toArray vs) → IntsAre vs (ns.filter p) → h'.Ns C mc →
      RR (.ref D) C (.ok .next) { s with heap := h', toks := tk }) :
    CompAt prog w A emptyList (.ListComp (.Name x pe) [⟨.Name x px, iter, [test], 0⟩] scope pos) scope cl env (.ref I) RR s := by
  intro D C h₁ tk hDn hCn hDC k₁ hD hC _
  have hIl := hfp I hIfp
  have hDI : D ≠ I := Ne.symm (ne_of_get' hIl hDn)
  have hCI : C ≠ I := Ne.symm (ne_of_get' hIl hCn)
  have hfpC : ∀ b ∈ fp, b ≠ C := fun b hb => ne_of_get' (hfp b hb) hCn
  have hfpD : ∀ b ∈ fp, b ≠ D := fun b hb => ne_of_get' (hfp b hb) hDn
  have hp : ((compEnvC scope cl C env).scope.kind == .class || ((compEnvC scope cl C env).scope.kind == .module && (compEnvC scope cl C env).locals != (compEnvC scope cl C env).globals)) = false := by
    show (scope.kind == .class || (scope.kind == .module && _)) = false
    rw [hkind]; rfl
  refine compLoop_list S.W (fun i s' => (∃ tk, s' = { s with heap := s'.heap, toks := tk }) ∧ (∀ b o, b ≠ I → s.heap.get? b = some o → s'.heap.get? b = some o) ∧ (∃ mc, s'.heap.Ns C mc) ∧ ∃ vs, s'.heap.PlainList D (List.toArray vs) ∧ IntsAre vs ((ns.take i).filter p))
    (S.W.frame _ _ _ hst fun b _ o e => k₁ b o e) ⟨⟨_, rfl⟩, fun b o _ e => k₁ b o e, ⟨_, hC⟩, [], ⟨0, hD⟩, by simpa using IntsAre.nil⟩ hlet ?_ ?_
  · rintro i v s' h' tk' hi hP ⟨⟨tk₀, e0⟩, j2, ⟨mc, j3⟩, vs, j4, j5⟩ hst' hw
    obtain ⟨k, t, rfl, hk⟩ := S.val i v hP
    have hkm : k ∈ ns := List.mem_of_getElem? hk
    have hn' : h'.Ns C mc := j3.at' fun o e => hw C o (by simpa using hCI) e
    refine wpAny_assign_Name (wpAny_storeName_local (hx C) (show h'.Ns C mc from hn') (fun h₂ hn₂ hs₂ => ?_) hp)
    replace hn₂ : h₂.Ns C (upd mc x (.int k t)) := hn₂
    replace hs₂ : Heap.SameBut C h' h₂ := hs₂
    have kk : ∀ b o, b ≠ I → s.heap.get? b = some o → h₂.get? b = some o := fun b o hb e => hs₂.extBut b o (ne_of_get e hCn) (hw b o (by simpa using hb) (j2 b o hb e))
    have hl₂ : h₂.PlainList D vs.toArray := j4.at fun o e => hs₂.extBut D o hDC (hw D o (by simpa using hDI) e)
    have hst₂ : St (i + 1) h₂ := S.W.frame _ _ _ hst' fun b hb o e => hs₂.extBut b o (hfpC b hb) e
    refine tests_one (wpAny_mono (htest C _ _ k t hkm hn₂ upd_same kk) ?_ fun _ _ e => e)
    rintro ok s₃ ⟨rfl, h₃, tk₃, rfl, k₃⟩
    replace k₃ : ∀ b o, h₂.get? b = some o → h₃.get? b = some o := k₃
    have htk : (ns.take (i + 1)).filter p = (ns.take i).filter p ++ if p k = true then [k] else [] := by
      rw [List.take_add_one, hk, List.filter_append]
      by_cases hpk : p k = true
      · simp [hpk]
      · simp [hpk]
    cases hpk : p k with
    | false =>
      simp only [Bool.false_eq_true, if_false]
      refine ⟨S.W.frame _ _ _ hst₂ fun b _ o e => k₃ b o e, ⟨tk₃, by rw [e0]⟩, fun b o hb e => k₃ b o (kk b o hb e), ⟨_, hn₂.keeps k₃⟩, vs, hl₂.at (k₃ D), ?_⟩
      rw [htk, hpk]; simpa using j5
    | true =>
      simp only [if_true]
      unfold bodyList
      refine wpAny_bind (nm_loc (hn₂.keeps k₃) upd_same (hk := hkind) (hl := hx C) (hd := hdb) ?_)
      have hll : vs.length ≤ ns.length := by
        rw [j5.length]
        exact Nat.le_trans (List.length_filter_le _ _) (by rw [List.length_take]; omega)
      refine wpAny_bind (wpAny_list_append_plain (hl₂.at (k₃ D)) (fun h₄ hl₄ hs₄ => wpAny_pure ?_) (by rw [List.size_toArray, sizeLine_eq]; omega))
      replace hs₄ : Heap.SameBut D h₃ h₄ := hs₄
      refine ⟨S.W.frame _ _ _ hst₂ fun b hb o e => hs₄.extBut b o (hfpD b hb) (k₃ b o e), ⟨tk₃, by rw [e0]⟩, fun b o hb e => hs₄.extBut b o (ne_of_get e hDn) (k₃ b o (kk b o hb e)), ⟨_, (hn₂.keeps k₃).sameBut hs₄ (Ne.symm hDC)⟩, vs ++ [Value.int k t], by simpa using hl₄, ?_⟩
      rw [htk, hpk]; simpa using IntsAre_snoc k t j5
  · rintro s' h' tk' ⟨⟨tk₀, e0⟩, j2, ⟨mc, j3⟩, vs, j4, j5⟩ hw
    rw [List.take_length] at j5
    rw [e0]
    exact hpost D C h' tk' vs mc hDn hCn hDC (fun b o hb e => hw b o (by simpa using hb) (j2 b o hb e)) (j4.at fun o e => hw D o (by simpa using hDI) e) j5 (j3.at' fun o e => hw C o (by simpa using hCI) e)
end
end Mine
end

-- part F3
section
open PySem PySem.W PyProof.Rows PySem.Calls
set_option maxRecDepth 100000
namespace Mine
section
variable {prog : Program} {w : World} {A : Around} {E : Value → Shared → Prop} {s : Shared} {env : Env}

/-- the names of a comprehension of which one is a cell -/
theorem newEnv_k {scope : Scope} {x0 x1 x2 : Str} {globals : Addr} {cl : List (Str × Addr)} {qual : Str} {outer : Env} {Q : Env → Shared → Prop}
    (hnm : scope.names = [(x0, .local), (x1, .cell), (x2, .free)])
    (hQ : ∀ h', h'.Ns s.heap.objs.size (fun _ => none) → h'.IsCell (s.heap.objs.size + 1) none → (∀ b o, s.heap.get? b = some o → h'.get? b = some o) →
      Q { scope, locals := s.heap.objs.size, globals, cells := (x1, s.heap.objs.size + 1) :: cl, qual, func := none, code := outer.code, frame := outer.frame, builtins := outer.builtins } { s with heap := h' }) :
    wpAny (model prog w) A (newFunctionEnv scope globals cl [] qual none .none (some outer)) Q E s := by
  simp only [newFunctionEnv, Option.isSome_some, if_true, hnm]
  refine wpAny_bind (wpAny_alloc ?_)
  simp only [List.forIn_cons, List.forIn_nil]
  refine wpAny_bind ?_
  refine wpAny_bind (wpAny_pure ?_)
  refine wpAny_bind ?_
  refine wpAny_bind (wpAny_alloc (wpAny_pure ?_))
  refine wpAny_bind (wpAny_pure ?_)
  refine wpAny_pure ?_
  refine wpAny_bind (wpAny_pure ?_)
  refine wpAny_pure ?_
  have := hQ ((s.heap.push { cls := .type "dict", data := .dict #[] }).push { cls := .type "cell", data := .cell none }) ((Heap.Ns.new s.heap (.type "dict")).push _)
    ⟨_, by have := Heap.get?_push_size (s.heap.push { cls := .type "dict", data := .dict #[] }) (o := { cls := .type "cell", data := .cell none }) rfl; rwa [Heap.size_push] at this, rfl⟩
    (fun b o e => Heap.get?_push_of_some _ (Heap.get?_push_of_some _ e))
  simpa [Heap.size_push] using this

def kEnv (scope : Scope) (cl : List (Str × Addr)) (C K : Addr) (x : Str) (env : Env) : Env :=
  { scope := relabel scope env, locals := C, globals := env.globals, cells := (x, K) :: cl, qual := env.qual, func := none, code := env.code, frame := env.frame, builtins := env.builtins }
def CompAtK (prog : Program) (w : World) (A : Around) (e : Expr) (scope : Scope) (cl : List (Str × Addr)) (x : Str) (env : Env) (it : Value) (RR : Value → Addr → Result → Shared → Prop) (s : Shared) : Prop :=
  ∀ D C K h₁ tk, s.heap.get? D = none → s.heap.get? C = none → s.heap.get? K = none → D ≠ C → D ≠ K → C ≠ K → (∀ b x, s.heap.get? b = some x → h₁.get? b = some x) → h₁.get? D = some emptyList → h₁.Ns C (fun _ => none) → h₁.IsCell K none →
    codeAny (model prog w) A (.compStart e 0 it (.ref D) (kEnv scope cl C K x env)) (RR (.ref D) C) { s with heap := h₁, toks := tk }

theorem Assign_ListComp_K {elt tgt iter y : Expr} {ifs : List Expr} {scope : Scope} {cl : List (Str × Addr)} {x0 x1 x2 : Str} {pos spos : Pos} {ny : Str} {py : Pos} {Q : Flow → Shared → Prop} (hy : y = .Name ny py)
    (hsw : swapsWith (.ListComp elt [⟨tgt, iter, ifs, 0⟩] scope pos) (some (.Name ny py)) spos.line env = pure true)
    (hclos : closureFor scope env = pure cl) (hnm : scope.names = [(x0, .local), (x1, .cell), (x2, .free)]) (hkind : scope.kind = .function)
    (hnames : ∀ y ∈ scope.names, y.2 = .local → scope.names.lookup y.1 = some .local)
    (h : wpAny (model prog w) A (eval iter env) (fun xv s₁ => wpAny (model prog w) A (pyIter xv) (fun it s₂ =>
      CompAtK prog w A (.ListComp elt [⟨tgt, iter, ifs, 0⟩] scope pos) scope cl x1 env it (fun acc C => compPost (model prog w) A E (some (assign (.Name ny py) env)) (fun _ s' => Q .next s') acc C) s₂) E s₁) E s)
    (hs : ∀ x, foldedSetIterable iter env x = pure x := by intro _; rfl) :
    wpAny (model prog w) A (exec (.Assign [y] (.ListComp elt [⟨tgt, iter, ifs, 0⟩] scope pos) spos) env) Q E s := by
  subst hy
  rw [exec_Assign_Name_used _ _ _ _ hsw]
  refine wpAny_bind (wpAny_standAt (wpAny_bind ?_))
  show wpAny _ A (do let _ ← comprehension (.ListComp elt [⟨tgt, iter, ifs, 0⟩] scope pos) scope env _ (newList []) false (eval iter env) (some (assign (.Name ny py) env))) _ _ s
  refine wpAny_bind (wpAny_mono (wpAny_comprehension_free (use := some (assign (.Name ny py) env)) (Q := fun _ s' => Q .next s') rfl hs hclos hkind hnames
    (wpAny_mono h (fun xv s₁ h₁ => wpAny_mono h₁ (fun it s₂ h₂ => ?_) fun _ _ e => e) fun _ _ e => e)) (fun _ s' hq => wpAny_pure (wpAny_pure hq)) fun _ _ e => e)
  refine wpAny_newObj_type (newEnv_k hnm fun h₁ hns hK hk => ?_)
  dsimp only at hns hK hk ⊢
  rw [Heap.size_push] at hns hK
  have hgo := h₂ s₂.heap.objs.size (s₂.heap.objs.size + 1) (s₂.heap.objs.size + 1 + 1) h₁ s₂.toks (get_size _) (Heap.get?_none_of_le (Nat.le_succ _)) (Heap.get?_none_of_le (by omega)) (Nat.ne_of_lt (Nat.lt_succ_self _)) (Nat.ne_of_lt (by omega)) (Nat.ne_of_lt (Nat.lt_succ_self _))
    (fun b x q => hk b x (Heap.get?_push_of_some _ q)) (hk _ _ (Heap.get?_push_size _ rfl)) hns hK
  have e1 : (s₂.heap.push emptyList).objs.size = s₂.heap.objs.size + 1 := Heap.size_push ..
  rw [e1]
  exact hgo

set_option maxHeartbeats 1000000 in
theorem filt_cell {x : Str} {pe px : Pos} {iter test : Expr} {scope : Scope} {cl : List (Str × Addr)} {pos : Pos} {I : Addr} {fp : List Addr} {ns : List Int} {P : Nat → Value → Prop} {St : Nat → Heap → Prop} {p : Int → Bool} {RR : Value → Addr → Result → Shared → Prop}
    (S : Src prog w A I fp ns P St) (hst : St 0 s.heap) (hfp : ∀ b ∈ fp, ∃ o, s.heap.get? b = some o) (hIfp : I ∈ fp) (hnl : ns.length < 900) (hx : ∀ C K, (kEnv scope cl C K x env).kindOf x = some .cell) (hkind : scope.kind = .function) (hdb : (x == ("__debug__" : Str)) = false)
    (hlet : ∀ v, letOwnedTupleGo (.Name x px) (.ref I) v = pure ())
    (htest : ∀ C K (s' : Shared) k t, k ∈ ns → s'.heap.IsCell K (some (.int k t)) → (∀ b o, b ≠ I → s.heap.get? b = some o → s'.heap.get? b = some o) →
      wpAny (model prog w) A (isTrue test (kEnv scope cl C K x env) (eval test (kEnv scope cl C K x env))) (fun ok s₃ => ok = p k ∧ Keeps s' s₃) (fun _ _ => False) s')
    (hpost : ∀ D C h' tk vs mc, s.heap.get? D = none → s.heap.get? C = none → D ≠ C → (∀ b o, b ≠ I → s.heap.get? b = some o → h'.get? b = some o) → h'.PlainList D (List.toArray vs) → IntsAre vs (ns.filter p) → h'.Ns C mc →
      RR (.ref D) C (.ok .next) { s with heap := h', toks := tk }) :
    CompAtK prog w A (.ListComp (.Name x pe) [⟨.Name x px, iter, [test], 0⟩] scope pos) scope cl x env (.ref I) RR s := by
  intro D C K h₁ tk hDn hCn hKn hDC hDK hCK k₁ hD hC hK
  have hIl := hfp I hIfp
  have hDI : D ≠ I := Ne.symm (ne_of_get' hIl hDn)
  have hCI : C ≠ I := Ne.symm (ne_of_get' hIl hCn)
  have hKI : K ≠ I := Ne.symm (ne_of_get' hIl hKn)
  have hfpK : ∀ b ∈ fp, b ≠ K := fun b hb => ne_of_get' (hfp b hb) hKn
  have hfpD : ∀ b ∈ fp, b ≠ D := fun b hb => ne_of_get' (hfp b hb) hDn
  have hlk : (kEnv scope cl C K x env).cells.lookup x = some K := by simp [kEnv]
  refine compLoop_list S.W (fun i s' => (∃ tk, s' = { s with heap := s'.heap, toks := tk }) ∧ (∀ b o, b ≠ I → s.heap.get? b = some o → s'.heap.get? b = some o) ∧ s'.heap.Ns C (fun _ => none) ∧ (∃ v, s'.heap.IsCell K v) ∧ ∃ vs, s'.heap.PlainList D (List.toArray vs) ∧ IntsAre vs ((ns.take i).filter p))
    (S.W.frame _ _ _ hst fun b _ o e => k₁ b o e) ⟨⟨_, rfl⟩, fun b o _ e => k₁ b o e, hC, ⟨_, hK⟩, [], ⟨0, hD⟩, by simpa using IntsAre.nil⟩ hlet ?_ ?_
  · rintro i v s' h' tk' hi hP ⟨⟨tk₀, e0⟩, j2, j3, ⟨v₀, jK⟩, vs, j4, j5⟩ hst' hw
    obtain ⟨k, t, rfl, hk⟩ := S.val i v hP
    have hkm : k ∈ ns := List.mem_of_getElem? hk
    have hn' : h'.Ns C (fun _ => none) := j3.at' fun o e => hw C o (by simpa using hCI) e
    have hK' : h'.IsCell K v₀ := let ⟨o, e, r⟩ := jK; ⟨o, hw K o (by simpa using hKI) e, r⟩
    refine wpAny_assign_Name (wpAny_storeName_cell hkind (hx C K) hlk (show h'.IsCell K v₀ from hK') (fun h₂ hK₂ hs₂ => ?_))
    replace hs₂ : Heap.SameBut K h' h₂ := hs₂
    have kk : ∀ b o, b ≠ I → s.heap.get? b = some o → h₂.get? b = some o := fun b o hb e => hs₂.extBut b o (ne_of_get e hKn) (hw b o (by simpa using hb) (j2 b o hb e))
    have hl₂ : h₂.PlainList D vs.toArray := j4.at fun o e => hs₂.extBut D o hDK (hw D o (by simpa using hDI) e)
    have hst₂ : St (i + 1) h₂ := S.W.frame _ _ _ hst' fun b hb o e => hs₂.extBut b o (hfpK b hb) e
    have hn₂ : h₂.Ns C (fun _ => none) := hn'.sameBut hs₂ hCK
    refine tests_one (wpAny_mono (htest C K _ k t hkm hK₂ kk) ?_ fun _ _ e => e)
    rintro ok s₃ ⟨rfl, h₃, tk₃, rfl, k₃⟩
    replace k₃ : ∀ b o, h₂.get? b = some o → h₃.get? b = some o := k₃
    have hK₃ : h₃.IsCell K (some (.int k t)) := hK₂.keeps k₃
    have htk : (ns.take (i + 1)).filter p = (ns.take i).filter p ++ if p k = true then [k] else [] := by
      rw [List.take_add_one, hk, List.filter_append]
      by_cases hpk : p k = true
      · simp [hpk]
      · simp [hpk]
    cases hpk : p k with
    | false =>
      simp only [Bool.false_eq_true, if_false]
      refine ⟨S.W.frame _ _ _ hst₂ fun b _ o e => k₃ b o e, ⟨tk₃, by rw [e0]⟩, fun b o hb e => k₃ b o (kk b o hb e), hn₂.keeps k₃, ⟨_, hK₃⟩, vs, hl₂.at (k₃ D), ?_⟩
      rw [htk, hpk]; simpa using j5
    | true =>
      simp only [if_true]
      unfold bodyList
      refine wpAny_bind (nm_cell hlk hK₃ (hk := hkind) (hl := hx C K) (hd := hdb) ?_)
      have hll : vs.length ≤ ns.length := by
        rw [j5.length]
        exact Nat.le_trans (List.length_filter_le _ _) (by rw [List.length_take]; omega)
      refine wpAny_bind (wpAny_list_append_plain (hl₂.at (k₃ D)) (fun h₄ hl₄ hs₄ => wpAny_pure ?_) (by rw [List.size_toArray, sizeLine_eq]; omega))
      replace hs₄ : Heap.SameBut D h₃ h₄ := hs₄
      refine ⟨S.W.frame _ _ _ hst₂ fun b hb o e => hs₄.extBut b o (hfpD b hb) (k₃ b o e), ⟨tk₃, by rw [e0]⟩, fun b o hb e => hs₄.extBut b o (ne_of_get e hDn) (k₃ b o (kk b o hb e)), (hn₂.keeps k₃).sameBut hs₄ (Ne.symm hDC), ⟨_, hK₃.sameBut hs₄ (Ne.symm hDK)⟩, vs ++ [Value.int k t], by simpa using hl₄, ?_⟩
      rw [htk, hpk]; simpa using IntsAre_snoc k t j5
  · rintro s' h' tk' ⟨⟨tk₀, e0⟩, j2, j3, jK, vs, j4, j5⟩ hw
    rw [List.take_length] at j5
    rw [e0]
    exact hpost D C h' tk' vs _ hDn hCn hDC (fun b o hb e => hw b o (by simpa using hb) (j2 b o hb e)) (j4.at fun o e => hw D o (by simpa using hDI) e) j5 (j3.at' fun o e => hw C o (by simpa using hCI) e)
end
end Mine
end

-- part F5
section
open PySem PySem.W PyProof.Rows PySem.Calls
set_option maxRecDepth 100000
namespace Mine
section
variable {prog : Program} {w : World} {A : Around} {E : Value → Shared → Prop} {s : Shared} {env : Env}

theorem slice_new {value : Expr} {lower upper : Option Expr} {p pos : Pos} {Q : Value → Shared → Prop}
    (h : wpAny (model prog w) A (eval value env) (fun o s₁ => wpAny (model prog w) A (evalPart lower env) (fun lv s₂ => wpAny (model prog w) A (evalPart upper env) (fun uv s₃ =>
      ∃ l items lo hi, o = .ref l ∧ s₃.heap.IsList l items ∧ IsPart lv lo ∧ IsPart uv hi ∧ items.size ≤ sizeLine ∧
        ∀ h' D, (∀ b o, s₃.heap.get? b = some o → h'.get? b = some o) → s₃.heap.get? D = none → h'.PlainList D (slicePick items lo hi none) → Q (.ref D) { s₃ with heap := h' }) E s₂) E s₁) E s)
    (ht : ∀ o r, letTemporaryGo value o r = pure () := by intro _ _; rfl) :
    wpAny (model prog w) A (eval (.Subscript value (.Slice lower upper none p) pos) env) Q E s := by
  refine wpAny_Subscript_Slice (T := "list") list_getitem_lookup (wpAny_mono h (fun o s₁ h₁ => wpAny_Slice (wpAny_mono h₁ (fun lv s₂ h₂ => wpAny_mono h₂ (fun uv s₃ h₃ => ?_) fun _ _ e => e) fun _ _ e => e)) fun _ _ e => e) ht
  rw [evalPart_none]
  refine wpAny_pure ?_
  obtain ⟨l, items, lo, hi, rfl, hl, pl, pu, hz, hQ⟩ := h₃
  refine ⟨(hl.push _).typeIs, wpAny_getItem_list_slice (hl.push _) (Heap.IsSliceOf.new ..) pl pu .none (by simp) ?_ hz⟩
  dsimp only
  exact hQ _ _ (fun b o e => Heap.get?_push_of_some _ (Heap.get?_push_of_some _ e)) (Heap.get?_none_of_le (by rw [Heap.size_push]; exact Nat.le_succ _)) ⟨0, Heap.get?_push_size _ rfl⟩

/-- a slice of what some expression gives -/
theorem slice_any {value : Expr} {lower upper : Option Expr} {p pos : Pos} {Q : Value → Shared → Prop}
    (h : wpAny (model prog w) A (eval value env) (fun o s₁ => wpAny (model prog w) A (evalPart lower env) (fun lv s₂ => wpAny (model prog w) A (evalPart upper env) (fun uv s₃ =>
      ∃ l items lo hi, o = .ref l ∧ s₃.heap.IsList l items ∧ IsPart lv lo ∧ IsPart uv hi ∧ items.size ≤ sizeLine ∧
        ∀ h' D, (∀ b o, s₃.heap.get? b = some o → h'.get? b = some o) → s₃.heap.get? D = none → h'.PlainList D (slicePick items lo hi none) → Q (.ref D) { s₃ with heap := h' }) E s₂) E s₁) E s) :
    wpAny (model prog w) A (eval (.Subscript value (.Slice lower upper none p) pos) env) Q E s := by
  refine Subscript_ (wpAny_mono h (fun o s₁ h₁ => wpAny_Slice (wpAny_mono h₁ (fun lv s₂ h₂ => wpAny_mono h₂ (fun uv s₃ h₃ => ?_) fun _ _ e => e) fun _ _ e => e)) fun _ _ e => e)
  rw [evalPart_none]
  refine wpAny_pure ?_
  obtain ⟨l, items, lo, hi, rfl, hl, pl, pu, hz, hQ⟩ := h₃
  refine kba_turn (value' := .Name "x" p) (fun _ => rfl) ?_
  refine slice_listK hl pl pu (hQ _ _ (fun b o e => Heap.get?_push_of_some _ (Heap.get?_push_of_some _ e)) (Heap.get?_none_of_le (Nat.le_succ _)) ⟨0, ?_⟩) (by rfl) (fun _ => rfl) hz
  have := Heap.get?_push_size (s₃.heap.push { cls := .type "slice", data := .fields #[lv, uv, .none] }) (o := { cls := .type "list", data := .seq (slicePick items lo hi none) }) rfl
  rwa [Heap.size_push] at this

def lawBody (k : Nat) : List Stmt := lawD.body.drop k

theorem truthy_list {l : Addr} {vs : List Value} {ns : List Int} {Q : Bool → Shared → Prop} (hl : s.heap.IsList l vs.toArray) (hi : IntsAre vs ns) (hfit : ns.length < 1000) (h : Q (!ns.isEmpty) { s with toks := s.toks + 1 + 1 }) :
    wpAny (model prog w) A (truthy (.ref l)) Q E s := by
  refine wpAny_truthy_list hl (by rw [List.size_toArray, hi.length]; omega) ?_
  have : vs.toArray.isEmpty = ns.isEmpty := by
    have := hi.length
    cases vs <;> cases ns <;> simp_all
  rw [this]; exact h

set_option maxHeartbeats 2000000 in
/-- pick, size and rows -/
theorem law_head {L a : Addr} {cd : Value} {m mg mb : Str → Option Value} {r : Addr} {rs : List Value} {ns : List Int} {Q : Flow → Shared → Prop}
    (hn : s.heap.Ns L m) (hmr : m "script" = some (.ref r)) (hr : s.heap.IsList r rs.toArray) (hri : IntsAre rs ns) (hlen : ns.length ≤ 63) (hrL : r ≠ L) (G : Gl mg mb s.heap) (hlenb : mg "len" = none) (hGL : ∀ b, b = mainGlobals ∨ b = builtinsNs ∨ b = cStatics → b ≠ L)
    (h : ∀ h' tok m' (pk : Int) tp (sz : Nat) ts l ls ms, Fm [L] s.heap h' → h'.Ns L m' → m' "pick" = some (.int pk tp) → m' "size" = some (.int sz ts) → 2 ≤ sz → sz ≤ 6 → m' "rows" = some (.ref l) → h'.IsList l (List.toArray ls) → IntsAre ls ms → l ≠ L →
      wpAny (model prog w) A (execs (lawBody 3) (envOfC lawD.name lawD.scope L a cd)) Q E { s with heap := h', toks := tok }) :
    wpAny (model prog w) A (execs (lawBody 0) (envOfC lawD.name lawD.scope L a cd)) Q E s := by
  -- pick
  have pickE : ∀ Q' : Value → Shared → Prop, (∀ pk tp tk, Q' (.int pk tp) { s with toks := tk }) → wpAny (model prog w) A (eval (.IfExp (.Name "script" ⟨37, 24, 37, 30⟩) (.Subscript (.Name "script" ⟨37, 11, 37, 17⟩) (.Constant (.int 0) 0 ⟨37, 18, 37, 19⟩) ⟨37, 11, 37, 20⟩) (.Constant (.int 4) 0 ⟨37, 36, 37, 37⟩) ⟨37, 11, 37, 37⟩) (envOfC lawD.name lawD.scope L a cd)) Q' E s := by
    intro Q' hQ'
    refine IfExp_ (wpAny_isTrue_value (nm_loc hn hmr (truthy_list hr hri (by omega) ?_)) (by rfl))
    cases ns with
    | nil =>
      simp only [List.isEmpty_nil, Bool.not_true, Bool.false_eq_true, if_false]
      exact wpAny_Constant_int (hQ' _ _ _)
    | cons k kr =>
      simp only [List.isEmpty_cons, Bool.not_false, if_true]
      cases hri with
      | cons _ t hrest =>
        refine sub_gen (nm_loc hn hmr (wpAny_Constant_int ?_))
        exact sub_list (k := 0) (v := .int k t) (by exact hr) (by decide) (by decide) (by rfl) (hQ' _ _ _)
  refine wpAny_execs_cons (wpAny_Assign_Name (pickE _ fun pk tp tk => ?_))
  refine st_loc (env := envOfC lawD.name lawD.scope L a cd) hn (fun h₁ hn₁ hs₁ => ?_)
  replace hn₁ : h₁.Ns L (upd m "pick" (.int pk tp)) := hn₁
  replace hs₁ : Heap.SameBut L s.heap h₁ := hs₁
  -- size
  refine wpAny_execs_cons (wpAny_Assign_Name (wpAny_BinOp (wpAny_Constant_int (wpAny_BinOp (wpAny_BinOp (nm_loc hn₁ upd_same (wpAny_Constant_int (PyProof.Rows.floordiv_int (by decide) ?_ (Or.inl (PyProof.noPylong_small (by decide)))))))))))
  refine wpAny_Constant_int (PyProof.Rows.mod_int' (by decide) ?_)
  refine wpAny_add_int ?_
  have hsz : ∃ sz : Nat, 2 + (pk.fdiv 2).fmod 5 = (sz : Int) ∧ 2 ≤ sz ∧ sz ≤ 6 := by
    have h0 : 0 ≤ (pk.fdiv 2).fmod 5 := by rw [Int.fmod_eq_emod_of_nonneg _ (by omega)]; exact Int.emod_nonneg _ (by omega)
    have h5 : (pk.fdiv 2).fmod 5 < 5 := by rw [Int.fmod_eq_emod_of_nonneg _ (by omega)]; exact Int.emod_lt_of_pos _ (by omega)
    exact ⟨(2 + (pk.fdiv 2).fmod 5).toNat, by omega, by omega, by omega⟩
  obtain ⟨sz, esz, hsz2, hsz6⟩ := hsz
  rw [esz]
  dsimp only
  refine st_loc (env := envOfC lawD.name lawD.scope L a cd) hn₁ (fun h₂ hn₂ hs₂ => ?_)
  replace hs₂ : Heap.SameBut L h₁ h₂ := hs₂
  have f₂ : Fm [L] s.heap h₂ := (Fm.same hs₁ (by simp)).trans (Fm.same hs₂ (by simp))
  generalize hm2 : upd (upd m "pick" (.int pk tp)) "size" _ = m₂ at hn₂
  replace hn₂ : h₂.Ns L m₂ := hn₂
  have hmr₂ : m₂ "script" = some (.ref r) := by rw [← hm2, upd_ne (by decide), upd_ne (by decide)]; exact hmr
  have hmp₂ : m₂ "pick" = some (.int pk tp) := by rw [← hm2, upd_ne (by decide), upd_same]
  have hms₂ : ∃ ts, m₂ "size" = some (.int sz ts) := ⟨_, by rw [← hm2, upd_same]⟩
  obtain ⟨ts, hms₂⟩ := hms₂
  have hr₂ : h₂.IsList r rs.toArray := hr.at fun o e => f₂ r o (by simpa using hrL) e
  have hG₂ : Gl mg mb h₂ := by
    obtain ⟨mc, hmc, hmc2⟩ := G.nl
    exact ⟨G.g.at' fun o e => f₂ _ o (by simpa using hGL _ (.inl rfl)) e, G.b.at' fun o e => f₂ _ o (by simpa using hGL _ (.inr (.inl rfl))) e, ⟨mc, hmc.at' fun o e => f₂ _ o (by simpa using hGL _ (.inr (.inr rfl))) e, hmc2⟩, G.bt⟩
  -- rows
  have fin : ∀ h' tk l ls ms, (∀ b o, h₂.get? b = some o → h'.get? b = some o) → h'.IsList l (List.toArray ls) → IntsAre ls ms → h₂.get? l = none →
      wpAny (model prog w) A (storeName (envOfC lawD.name lawD.scope L a cd) "rows" (.ref l)) (fun _ s' => wpAny (model prog w) A (execs (lawBody 3) (envOfC lawD.name lawD.scope L a cd)) Q E s') E { s with heap := h', toks := tk } := by
    intro h' tk l ls ms k' hl hi hln
    refine st_loc (env := envOfC lawD.name lawD.scope L a cd) (hn₂.keeps k') (fun h₃ hn₃ hs₃ => ?_)
    replace hn₃ : h₃.Ns L (upd m₂ "rows" (.ref l)) := hn₃
    replace hs₃ : Heap.SameBut L h' h₃ := hs₃
    have hlL : l ≠ L := Ne.symm (ne_of_get' (Ns_live hn₂) hln)
    exact h h₃ _ _ pk tp sz ts l ls ms ((f₂.trans (Fm.keep k')).trans (Fm.same hs₃ (by simp))) hn₃ (by rw [upd_ne (by decide)]; exact hmp₂) (by rw [upd_ne (by decide)]; exact hms₂) hsz2 hsz6 upd_same (hl.at fun o e => hs₃.extBut l o hlL e) hi hlL
  refine wpAny_execs_cons (wpAny_Assign_Name (IfExp_ (wpAny_isTrue_Compare1 ?_)))
  refine Call_ (nm_built hG₂ hlenb (by rfl) ?_)
  refine PyProof.Rows.callWith_builtin1 (PyProof.Rows.args_cons (nm_loc hn₂ hmr₂ (PyProof.Rows.args_nil ?_)))
  refine call_len_list hr₂ (by rw [List.size_toArray, hri.length]; omega) (wpAny_Constant_int ?_)
  refine PyProof.Rows.gt_int (wpAny_truthy_bool ?_)
  dsimp only
  by_cases hgt : (1 : Int) < (rs.toArray.size : Int)
  · rw [decide_eq_true hgt]
    simp only [if_true]
    refine slice_new (nm_loc hn₂ hmr₂ ?_)
    rw [evalPart_some, evalPart_some]
    refine wpAny_Constant_int ?_
    refine wpAny_Constant_int ⟨r, rs.toArray, some 1, some 10, rfl, hr₂, .int _ _, .int _ _, by rw [List.size_toArray, hri.length, sizeLine_eq]; omega, fun h' D k' hDn hl => ?_⟩
    have hl' : h'.IsList D (slicePick rs.toArray (some 1) (some 10) none).toList.toArray := by simpa using hl.isList
    exact fin h' _ D _ _ k' hl' (kmk_run hri (by decide) (by decide)) hDn
  · rw [decide_eq_false hgt]
    simp only [Bool.false_eq_true, if_false]
    refine wpAny_List (wpAny_items_cons (wpAny_Constant_int (wpAny_items_cons (wpAny_Constant_int (wpAny_items_cons (wpAny_Constant_int (wpAny_items_cons (wpAny_Constant_int (wpAny_items_nil ⟨by rw [sizeLine_eq]; simp, ?_⟩)))))))))
    exact fin _ _ _ _ _ (fun b o e => Heap.get?_push_of_some _ e) ⟨_, Heap.get?_push_size _ rfl, rfl, 0, rfl⟩ (.cons _ _ (.cons _ _ (.cons _ _ (.cons _ _ .nil)))) (get_size _)
end
end Mine
end

-- part F6
section
open PySem PySem.W PyProof.Rows PySem.Calls
set_option maxRecDepth 100000
namespace Mine
section
variable {prog : Program} {w : World} {A : Around} {E : Value → Shared → Prop} {s : Shared} {env : Env}

def kr (g : Rows3) : List (Int × List Int) := g.map fun x => (x.1, x.2.2)

set_option maxHeartbeats 2000000 in
/-- {name: VALUE for name in after if TEST} -/
theorem dict_at {pk px : Pos} {vx iter : Expr} {ifs : List Expr} {scope : Scope} {cl : List (Str × Addr)} {pos : Pos} {I d : Addr} {g : Rows3} {ep : Nat} {p : Int × Addr × List Int → Bool} {RR : Value → Addr → Result → Shared → Prop}
    (hh : A.handled = none) (hne : d ≠ I) (hd : LDict prog w s.heap d g) (hgl : g.length < 900) (hst : s.heap.IsKeyIter I d 0 (g.map fun x => (x.1, Value.ref x.2.1)).length ep ∧ s.heap.DictAt (intKind prog w) d (g.map fun x => (x.1, Value.ref x.2.1)) ep)
    (hx : ∀ C, (compEnvC scope cl C env).kindOf ("name" : Str) = some .local) (hkind : scope.kind = .function)
    (htest : ∀ C (s' : Shared) m x t, x ∈ g → s'.heap.Ns C m → m "name" = some (.int x.1 t) → (∀ b o, b ≠ I → s.heap.get? b = some o → s'.heap.get? b = some o) →
      wpAny (model prog w) A (tests ifs (compEnvC scope cl C env)) (fun ok s₃ => ok = p x ∧ Keeps s' s₃) (fun _ _ => False) s')
    (hval : ∀ C (s' : Shared) m x t, x ∈ g → s'.heap.Ns C m → m "name" = some (.int x.1 t) → (∀ b o, b ≠ I → s.heap.get? b = some o → s'.heap.get? b = some o) →
      wpAny (model prog w) A (eval vx (compEnvC scope cl C env)) (fun v s₃ => Keeps s' s₃ ∧ ∃ T vs, v = .ref T ∧ s₃.heap.PlainList T (List.toArray vs) ∧ IntsAre vs x.2.2 ∧ (T = x.2.1 ∨ s'.heap.get? T = none)) (fun _ _ => False) s')
    (hpost : ∀ D C h' tk g' mc, s.heap.objs.size ≤ D → s.heap.get? D = none → s.heap.get? C = none → D ≠ C → (∀ b o, b ≠ I → s.heap.get? b = some o → h'.get? b = some o) → LDict prog w h' D g' → kr g' = kr (g.filter p) → (∀ y ∈ g', y.2.1 ≠ C ∧ y.2.1 ≠ D) → h'.Ns C mc →
      (∀ y ∈ g', y.2.1 ∈ g.map (·.2.1) ∨ s.heap.get? y.2.1 = none) → RR (.ref D) C (.ok .next) { s with heap := h', toks := tk }) :
    CompAt prog w A emptyDict (.DictComp (.Name "name" pk) vx [⟨.Name "name" px, iter, ifs, 0⟩] scope pos) scope cl env (.ref I) RR s := by
  intro D C h₁ tk hDn hCn hDC k₁ hD hC hDz
  have hIl : ∃ o, s.heap.get? I = some o := let ⟨o, e, _⟩ := hst.1; ⟨o, e⟩
  have hdl := DictOf_live hd.1
  have hDI : D ≠ I := Ne.symm (ne_of_get' hIl hDn)
  have hCI : C ≠ I := Ne.symm (ne_of_get' hIl hCn)
  have hdC : d ≠ C := ne_of_get' hdl hCn
  have hdD : d ≠ D := ne_of_get' hdl hDn
  have hp : ((compEnvC scope cl C env).scope.kind == .class || ((compEnvC scope cl C env).scope.kind == .module && (compEnvC scope cl C env).locals != (compEnvC scope cl C env).globals)) = false := by
    show (scope.kind == .class || (scope.kind == .module && _)) = false
    rw [hkind]; rfl
  have S := Src.keys (prog := prog) (w := w) (A := A) (I := I) (d := d) (g := g) ep hh hne
  have hrowI : ∀ x ∈ g, x.2.1 ≠ I := fun x hx e => by
    obtain ⟨vs, p1, _⟩ := hd.2 x hx
    obtain ⟨o, ho, hc, n, hdt⟩ := p1.isList
    obtain ⟨o', ho', _, hdt'⟩ := hst.1
    rw [e, ho'] at ho; cases ho; rw [hdt'] at hdt; cases hdt
  have hlen : (g.map (·.1)).length = g.length := List.length_map ..
  refine compLoop_dict S.W (fun i s' => (∃ tk, s' = { s with heap := s'.heap, toks := tk }) ∧ (∀ b o, b ≠ I → s.heap.get? b = some o → s'.heap.get? b = some o) ∧ (∃ mc, s'.heap.Ns C mc) ∧ ∃ g', LDict prog w s'.heap D g' ∧ kr g' = kr ((g.take i).filter p) ∧
      ∀ y ∈ g', y.2.1 ∉ [D, C, I] ∧ (y.2.1 ∈ g.map (·.2.1) ∨ s.heap.get? y.2.1 = none))
    (S.W.frame _ _ _ hst fun b _ o e => k₁ b o e) ⟨⟨_, rfl⟩, fun b o _ e => k₁ b o e, ⟨_, hC⟩, [], ⟨⟨_, #[], 0, hD, ⟨rfl, rfl, rfl⟩, rfl, fun _ he => by simp at he, .nil, .nil⟩, fun _ hx => (nomatch hx)⟩, by simp [kr], fun _ hx => (nomatch hx)⟩ (fun _ => rfl) ?_ ?_
  · rintro i v s' h' tk' hi hP ⟨⟨tk₀, e0⟩, j2, ⟨mc, j3⟩, g', j4, j5, j6⟩ hst' hw
    have hi' : i < g.length := by rw [← hlen]; exact hi
    obtain ⟨k, t, rfl, hk⟩ := S.val i v hP
    obtain ⟨x, hxi, ekx⟩ : ∃ x, g[i]? = some x ∧ x.1 = k := by
      rw [List.getElem?_map, Option.map_eq_some_iff] at hk
      exact hk
    subst ekx
    have hxg : x ∈ g := List.mem_of_getElem? hxi
    have hn' : h'.Ns C mc := j3.at' fun o e => hw C o (by simpa using hCI) e
    refine wpAny_assign_Name (wpAny_storeName_local (hx C) (show h'.Ns C mc from hn') (fun h₂ hn₂ hs₂ => ?_) hp)
    replace hn₂ : h₂.Ns C (upd mc "name" (.int x.1 t)) := hn₂
    replace hs₂ : Heap.SameBut C h' h₂ := hs₂
    have kk : ∀ b o, b ≠ I → s.heap.get? b = some o → h₂.get? b = some o := fun b o hb e => hs₂.extBut b o (ne_of_get e hCn) (hw b o (by simpa using hb) (j2 b o hb e))
    have hfp : ∀ b ∈ [I, d], b ≠ C := fun b hb => by
      simp only [List.mem_cons, List.not_mem_nil, or_false] at hb
      rcases hb with q | q
      · rw [q]; exact Ne.symm hCI
      · rw [q]; exact hdC
    have hfpD : ∀ b ∈ [I, d], b ≠ D := fun b hb => by
      simp only [List.mem_cons, List.not_mem_nil, or_false] at hb
      rcases hb with q | q
      · rw [q]; exact Ne.symm hDI
      · rw [q]; exact hdD
    have hst₂ := S.W.frame _ _ _ hst' fun b hb o e => hs₂.extBut b o (hfp b hb) e
    have hD₂ : LDict prog w h₂ D g' := ⟨DictOf_at j4.1 fun o e => hs₂.extBut D o hDC (hw D o (by simpa using hDI) e), fun y hy => by
      obtain ⟨vs, p1, p2⟩ := j4.2 y hy
      have hy6 := (j6 y hy).1
      simp only [List.mem_cons, List.not_mem_nil, or_false, not_or] at hy6
      exact ⟨vs, p1.at (fun o e => hs₂.extBut _ o hy6.2.1 (hw _ o (by simpa using hy6.2.2) e)), p2⟩⟩
    have hkey : (g.take (i + 1)).filter p = (g.take i).filter p ++ if p x = true then [x] else [] := by
      rw [List.take_add_one, hxi, List.filter_append]
      by_cases hpk : p x = true
      · simp [hpk]
      · simp [hpk]
    refine wpAny_mono (htest C { s' with heap := h₂, toks := tk' + 1 } _ x t hxg hn₂ upd_same kk) ?_ fun _ _ e => e
    rintro ok s₃ ⟨rfl, h₃, tk₃, rfl, k₃⟩
    replace k₃ : ∀ b o, h₂.get? b = some o → h₃.get? b = some o := k₃
    dsimp only
    cases hpk : p x with
    | false =>
      simp only [Bool.false_eq_true, if_false]
      refine ⟨S.W.frame _ _ _ hst₂ fun b _ o e => k₃ b o e, ⟨tk₃, by rw [e0]⟩, fun b o hb e => k₃ b o (kk b o hb e), ⟨_, hn₂.keeps k₃⟩, g', hD₂.keeps k₃, ?_, j6⟩
      rw [hkey, hpk]; simpa using j5
    | true =>
      simp only [if_true]
      unfold bodyDict
      have hn₃ := hn₂.keeps k₃
      refine wpAny_bind (nm_loc hn₃ upd_same (hk := hkind) (hl := hx C) ?_)
      refine wpAny_bind (wpAny_holding (wpAny_mono (hval C { s' with heap := h₃, toks := tk₃ } _ x t hxg hn₃ upd_same fun b o hb e => k₃ b o (kk b o hb e)) ?_ fun _ _ e => e))
      rintro v s₄ ⟨⟨h₄, tk₄, rfl, k₄⟩, T, vs, rfl, hT, hvs, hTa⟩
      replace k₄ : ∀ b o, h₃.get? b = some o → h₄.get? b = some o := k₄
      replace hT : h₄.PlainList T vs.toArray := hT
      replace hTa : T = x.2.1 ∨ h₃.get? T = none := hTa
      dsimp only
      refine wpAny_bind (wpAny_standAt (wpAny_holding ?_))
      have hD₄ : LDict prog w h₄ D g' := (hD₂.keeps k₃).keeps k₄
      have hknew : x.1 ∉ g'.map (·.1) := by
        have e1 : g'.map (·.1) = (kr g').map (·.1) := by unfold kr; rw [List.map_map]; rfl
        rw [e1, j5]
        unfold kr
        rw [List.map_map]
        intro q
        obtain ⟨z, hz, ez⟩ := List.mem_map.mp q
        have hz' := (List.mem_filter.mp hz).1
        have hnd := hd.nodup
        rw [← List.take_append_drop i g, List.map_append, List.nodup_append] at hnd
        refine hnd.2.2 _ (List.mem_map_of_mem hz') x.1 ?_ (by simpa using ez)
        rw [List.drop_eq_getElem_cons hi', List.map_cons, (List.getElem?_eq_some_iff.mp hxi).2]
        exact List.mem_cons_self
      have hgl' : g'.length ≤ g.length := by
        have := congrArg List.length j5
        unfold kr at this
        rw [List.length_map, List.length_map] at this
        rw [this]
        exact Nat.le_trans (List.length_filter_le _ _) (by rw [List.length_take]; omega)
      refine wpAny_dictSet_pairs (intKind_is prog w x.1 t) hD₄.1 (fun h₅ hd₅ hs₅ => ?_) (by rw [List.length_map, sizeLine_eq]; omega)
      replace hs₅ : Heap.SameBut D h₄ h₅ := hs₅
      rw [show stored (g'.map fun x => (x.1, Value.ref x.2.1)) x.1 (.ref T) = (rput g' x.1 (T, x.2.2)).map fun x => (x.1, Value.ref x.2.1) from stored_map (fun x : Addr × List Int => Value.ref x.1) g' x.1 (T, x.2.2), rput_new hknew] at hd₅
      have hCl : ∃ o, h₃.get? C = some o := Ns_live hn₃
      have hDl3 : ∃ o, h₃.get? D = some o := let ⟨o, e⟩ := DictOf_live hD₂.1; ⟨o, k₃ _ _ e⟩
      have hIl3 : ∃ o, h₃.get? I = some o := by
        obtain ⟨⟨o, e, _⟩, _⟩ := hst₂
        exact ⟨o, k₃ _ _ e⟩
      have hTne : T ∉ [D, C, I] := by
        simp only [List.mem_cons, List.not_mem_nil, or_false, not_or]
        rcases hTa with q | q
        · obtain ⟨us, q1, _⟩ := hd.2 x hxg
          have hl := IsList_live q1.isList
          exact ⟨q ▸ ne_of_get' hl hDn, q ▸ ne_of_get' hl hCn, q ▸ hrowI x hxg⟩
        · exact ⟨Ne.symm (ne_of_get' hDl3 q), Ne.symm (ne_of_get' hCl q), Ne.symm (ne_of_get' hIl3 q)⟩
      have hTD : T ≠ D := fun q => hTne (by simp [q])
      refine ⟨S.W.frame _ _ _ hst₂ fun b hb o e => hs₅.extBut b o (hfpD b hb) (k₄ b o (k₃ b o e)), ⟨_, by rw [e0]⟩, fun b o hb e => hs₅.extBut b o (ne_of_get e hDn) (k₄ b o (k₃ b o (kk b o hb e))), ⟨_, (hn₃.keeps k₄).sameBut hs₅ (Ne.symm hDC)⟩, g' ++ [(x.1, T, x.2.2)], ⟨hd₅, fun y hy => ?_⟩, ?_, fun y hy => ?_⟩
      · rcases List.mem_append.mp hy with hy | hy
        · obtain ⟨us, p1, p2⟩ := hD₄.2 y hy
          have hy6 := (j6 y hy).1
          simp only [List.mem_cons, List.not_mem_nil, or_false, not_or] at hy6
          exact ⟨us, p1.at (fun o e => hs₅.extBut _ o hy6.1 e), p2⟩
        · rw [List.mem_singleton.mp hy]
          exact ⟨vs, hT.at (fun o e => hs₅.extBut T o hTD e), hvs⟩
      · have j5' := j5
        unfold kr at j5' ⊢
        rw [hkey, hpk, List.map_append, j5']; simp
      · rcases List.mem_append.mp hy with hy | hy
        · exact j6 y hy
        · rw [List.mem_singleton.mp hy]
          refine ⟨hTne, ?_⟩
          rcases hTa with q | q
          · exact .inl (by rw [q]; exact List.mem_map_of_mem hxg)
          · right
            cases e : s.heap.get? T with
            | none => rfl
            | some o => rw [k₃ _ _ (kk T o (fun z => hTne (by simp [z])) e)] at q; cases q
  · rintro s' h' tk' ⟨⟨tk₀, e0⟩, j2, ⟨mc, j3⟩, g', j4, j5, j6⟩ hw
    rw [List.length_map, List.take_length] at j5
    rw [e0]
    refine hpost D C h' tk' g' mc hDz hDn hCn hDC (fun b o hb e => hw b o (by simpa using hb) (j2 b o hb e)) ⟨DictOf_at j4.1 fun o e => hw D o (by simpa using hDI) e, fun y hy => ?_⟩ j5 (fun y hy => ?_) (j3.at' fun o e => hw C o (by simpa using hCI) e) fun y hy => (j6 y hy).2
    · obtain ⟨vs, p1, p2⟩ := j4.2 y hy
      exact ⟨vs, p1.at (fun o e => hw _ o (by have := (j6 y hy).1; simp at this ⊢; exact this.2.2) e), p2⟩
    · have := (j6 y hy).1
      simp only [List.mem_cons, List.not_mem_nil, or_false, not_or] at this
      exact ⟨this.2.1, this.1⟩
end
end Mine
end

-- part F7
section
open PySem PySem.W PyProof.Rows PySem.Calls
set_option maxRecDepth 100000
namespace Mine
section
variable {prog : Program} {w : World} {A : Around} {E : Value → Shared → Prop} {s : Shared} {env : Env}

theorem cell_keep {h h' : Heap} {c : Addr} {v : Option Value} (x : h.IsCell c v) (k : ∀ o, h.get? c = some o → h'.get? c = some o) : h'.IsCell c v := let ⟨o, e, r⟩ := x; ⟨o, k o e, r⟩
theorem cell_live {h : Heap} {c : Addr} {v : Option Value} (x : h.IsCell c v) : ∃ o, h.get? c = some o := let ⟨o, e, _⟩ := x; ⟨o, e⟩
theorem cell_ne_ns {h : Heap} {a b : Addr} {v : Option Value} {m : Str → Option Value} (x : h.IsCell a v) (y : h.Ns b m) : a ≠ b := by
  rintro rfl
  obtain ⟨o, ho, hd⟩ := x
  obtain ⟨o', es, ep, ho', hd', _⟩ := y
  rw [ho] at ho'; cases ho'; rw [hd] at hd'; cases hd'
theorem list_ne_cell {h : Heap} {a b : Addr} {v : Option Value} {vs : Array Value} (x : h.IsList a vs) (y : h.IsCell b v) : a ≠ b := by
  rintro rfl
  obtain ⟨o, ho, hc, n, hd⟩ := x
  obtain ⟨o', ho', hd'⟩ := y
  rw [ho] at ho'; cases ho'; rw [hd] at hd'; cases hd'
theorem list_ne_ns {h : Heap} {a b : Addr} {m : Str → Option Value} {vs : Array Value} (x : h.IsList a vs) (y : h.Ns b m) : a ≠ b := by
  rintro rfl
  obtain ⟨o, ho, hc, n, hd⟩ := x
  obtain ⟨o', es, ep, ho', hd', _⟩ := y
  rw [ho] at ho'; cases ho'; rw [hd] at hd'; cases hd'
theorem dict_ne_cell {h : Heap} {a b : Addr} {v : Option Value} {kvs : List (Int × Value)} (x : h.DictOf (intKind prog w) a kvs) (y : h.IsCell b v) : a ≠ b := by
  rintro rfl
  obtain ⟨o, es, ep, ho, hc, hd, _⟩ := x
  obtain ⟨o', ho', hd'⟩ := y
  rw [ho] at ho'; cases ho'; rw [hd] at hd'; cases hd'

/-- after[name] of a row -/
theorem row_of {g : Rows3} (hk : (g.map (·.1)).Nodup) {x : Int × Addr × List Int} (hx : x ∈ g) {d : Addr} {t : Tok} {Q : Value → Shared → Prop} (hd : s.heap.DictOf (intKind prog w) d (g.map fun x => (x.1, Value.ref x.2.1)))
    (h : Q (.ref x.2.1) { s with toks := s.toks + 1 }) : SubscriptOn (model prog w) A (.ref d) (.int x.1 t) Q E s :=
  sub_dict hd (valueAt_ref hk hx) h

set_option maxHeartbeats 4000000 in
theorem law_cut {L a : Addr} {cd : Value} {m : Str → Option Value} {D : Addr} {g : Rows3} {pk : Int} {tp : Tok} {Q : Flow → Shared → Prop}
    (hh : A.handled = none) (hu : A.units + 72 < cLine) (hn : s.heap.Ns L m) (hmp : m "pick" = some (.int pk tp)) (hc : s.heap.IsCell (L + 1) (some (.ref D))) (hd : LDict prog w s.heap D g) (hDs : L < D) (hL : sysModules < L) (hgl : g.length < 900)
    (h : ∀ h' tok D' g', Fm [L + 1] s.heap h' → h'.Ns L m → h'.IsCell (L + 1) (some (.ref D')) → LDict prog w h' D' g' → L < D' → (kr g' = kr g ∨ kr g' = kr (g.filter fun x => !decide (x.2.2 = []))) →
      wpAny (model prog w) A (execs (lawBody 5) (envOfC lawD.name lawD.scope L a cd)) Q E { s with heap := h', toks := tok }) :
    wpAny (model prog w) A (execs (lawBody 4) (envOfC lawD.name lawD.scope L a cd)) Q E s := by
  have hDsys : sysModules < D := Nat.lt_trans hL hDs
  refine wpAny_execs_cons (wpAny_If (wpAny_isTrue_Compare1 (wpAny_BinOp (nm_loc hn hmp (wpAny_Constant_int (PyProof.Rows.mod_int' (by decide) ?_))))))
  refine wpAny_Constant_int (PyProof.Rows.eq_int (wpAny_truthy_bool ?_))
  dsimp only
  cases hb : (pk.fmod 2 == 1) with
  | false =>
    simp only [Bool.false_eq_true, if_false]
    exact wpAny_execs_nil (h s.heap _ D g Fm.refl hn hc hd hDs (.inl rfl))
  | true =>
    simp only [if_true]
    refine wpAny_execs_cons (wpAny_Assign_Name ?_)
    refine DictComp_J (cl := [(("after" : Str), (L + 1 : Addr))]) (by rfl) (by decide) (by rfl) (by decide) ?_
    refine nm_cell (c := L + 1) (by rfl) (show s.heap.IsCell (L + 1) (some (.ref D)) from hc) (iter_dict (ne_sys hDsys) hd.1 fun I h₀ ep hIn hk₀ hit hat => ?_)
    replace hIn : s.heap.get? I = none := hIn
    replace hk₀ : ∀ b o, s.heap.get? b = some o → h₀.get? b = some o := hk₀
    have hDI : D ≠ I := ne_of_get' (DictOf_live hd.1) hIn
    have hcI : L + 1 ≠ I := ne_of_get' (cell_live hc) hIn
    have hd₀ : LDict prog w h₀ D g := hd.keeps hk₀
    have hrI : ∀ x ∈ g, x.2.1 ≠ I := fun x hx => let ⟨_, p1, _⟩ := hd.2 x hx; ne_of_get' (IsList_live p1.isList) hIn
    have ldOf : ∀ h₂ : Heap, (∀ b o, b ≠ I → h₀.get? b = some o → h₂.get? b = some o) → LDict prog w h₂ D g ∧ h₂.IsCell (L + 1) (some (.ref D)) := fun h₂ hk =>
      ⟨hd₀.fm (W := [I]) (fun b o hb e => hk b o (by simpa using hb) e) (by simpa using hDI) fun x hx => by simpa using hrI x hx, cell_keep (hc.keeps hk₀) fun o e => hk _ o hcI e⟩
    refine dict_at (p := fun x => !decide (x.2.2 = [])) hh hDI hd₀ hgl ⟨hit, hat⟩ (fun C => by rfl) (by rfl) ?_ ?_ ?_
    · intro C s' mC x t hx hnC hmC hk
      obtain ⟨hl, hcl⟩ := ldOf s'.heap hk
      obtain ⟨vs, p1, p2⟩ := hl.2 x hx
      refine tests_one (wpAny_isTrue_Compare1 (sub_gen (nm_cell (c := L + 1) (by rfl) hcl (nm_loc hnC hmC (row_of hl.nodup hx hl.1 ?_)))))
      refine wpAny_List (wpAny_items_nil ⟨Nat.zero_le _, ?_⟩)
      refine ke_ne_ints (xs := vs) (ys := []) (ns := x.2.2) (ms := []) (p1.isList.push _) ⟨_, Heap.get?_push_size _ rfl, rfl, 0, rfl⟩ p2 .nil (by omega) (wpAny_truthy_bool ⟨rfl, _, _, rfl, fun b o e => Heap.get?_push_of_some _ e⟩)
    · intro C s' mC x t hx hnC hmC hk
      obtain ⟨hl, hcl⟩ := ldOf s'.heap hk
      obtain ⟨vs, p1, p2⟩ := hl.2 x hx
      exact sub_gen (nm_cell (c := L + 1) (by rfl) hcl (nm_loc hnC hmC (row_of hl.nodup hx hl.1 ⟨⟨s'.heap, _, rfl, fun _ _ e => e⟩, x.2.1, vs, rfl, p1, p2, .inl rfl⟩)))
    · intro D' C h' tk g' mc hDz hDn hCn hDC hk hl' hkr hoff hnC hal
      replace hDz : h₀.objs.size ≤ D' := hDz
      replace hCn : h₀.get? C = none := hCn
      replace hDn : h₀.get? D' = none := hDn
      replace hk : ∀ b o, b ≠ I → h₀.get? b = some o → h'.get? b = some o := hk
      have hcl' : h'.IsCell (L + 1) (some (.ref D)) := (ldOf h' hk).2
      have hcC : L + 1 ≠ C := ne_of_get' (cell_live (hc.keeps hk₀)) hCn
      have hLI : L ≠ I := ne_of_get' (Ns_live hn) hIn
      have hLC : L ≠ C := ne_of_get' (Ns_live (hn.keeps hk₀)) hCn
      have hn' : h'.Ns L m := (hn.keeps hk₀).at' fun o e => hk L o hLI e
      have hDc : D' ≠ L + 1 := Ne.symm (ne_of_get' (cell_live (hc.keeps hk₀)) hDn)
      refine post_none (s := { s with heap := h', toks := tk }) hnC fun h₂ hs₂ => ?_
      replace hs₂ : Heap.SameBut C h' h₂ := hs₂
      refine st_cell (c := L + 1) (by rfl) (hcl'.sameBut hs₂ hcC) (fun h₃ hc₃ hs₃ => ?_)
      replace hs₃ : Heap.SameBut (L + 1) h₂ h₃ := hs₃
      refine wpAny_execs_nil ?_
      dsimp only
      have hf₃ : Fm [L + 1, C] h' h₃ := (Fm.same hs₂ (by simp)).trans (Fm.same hs₃ (by simp))
      have hrc : ∀ y ∈ g', y.2.1 ∉ [L + 1, C] := fun y hy => by
        obtain ⟨vs, p1, _⟩ := hl'.2 y hy
        simp only [List.mem_cons, List.not_mem_nil, or_false, not_or]
        exact ⟨list_ne_cell p1.isList hcl', (hoff y hy).1⟩
      refine h h₃ _ D' g' (fun b o hb e => hf₃ b o ?_ (hk b o (ne_of_get e hIn) (hk₀ b o e))) (hn'.at' fun o e => hf₃ L o (by simp only [List.mem_cons, List.not_mem_nil, or_false, not_or]; exact ⟨Nat.ne_of_lt (Nat.lt_succ_self L), hLC⟩) e) hc₃
        (hl'.fm hf₃ (by simp only [List.mem_cons, List.not_mem_nil, or_false, not_or]; exact ⟨hDc, hDC⟩) hrc) ?_ (.inr hkr)
      · simp only [List.mem_cons, List.not_mem_nil, or_false, not_or]
        exact ⟨by simpa using hb, ne_of_get (hk₀ b o e) hCn⟩
      · obtain ⟨o, e⟩ := Ns_live hn
        exact Nat.lt_of_lt_of_le (Heap.lt_size (hk₀ _ _ e)) hDz
end
end Mine
end

-- part F8
section
open PySem PySem.W PyProof.Rows PySem.Calls
set_option maxRecDepth 100000
namespace Mine
section
variable {prog : Program} {w : World} {A : Around} {E : Value → Shared → Prop} {s : Shared} {env : Env}

set_option maxHeartbeats 4000000 in
theorem law_before {L a : Addr} {cd : Value} {m : Str → Option Value} {D : Addr} {g : Rows3} {Q : Flow → Shared → Prop}
    (hh : A.handled = none) (hn : s.heap.Ns L m) (hc : s.heap.IsCell (L + 1) (some (.ref D))) (hd : LDict prog w s.heap D g) (hDs : L < D) (hL : sysModules < L) (hgl : g.length < 900) (hrl : ∀ x ∈ g, x.2.2.length < 900)
    (h : ∀ h' tok B gb, Fm [L] s.heap h' → h'.Ns L (upd m "before" (.ref B)) → LDict prog w h' B gb → L < B → kr gb = kr g →
      wpAny (model prog w) A (execs (lawBody 6) (envOfC lawD.name lawD.scope L a cd)) Q E { s with heap := h', toks := tok }) :
    wpAny (model prog w) A (execs (lawBody 5) (envOfC lawD.name lawD.scope L a cd)) Q E s := by
  have hDsys : sysModules < D := Nat.lt_trans hL hDs
  refine wpAny_execs_cons ?_
  refine Assign_DictComp_J (cl := [(("after" : Str), (L + 1 : Addr))]) rfl (by rfl) (by rfl) (by decide) (by rfl) (by decide) ?_
  refine nm_cell (c := L + 1) (by rfl) (show s.heap.IsCell (L + 1) (some (.ref D)) from hc) (iter_dict (ne_sys hDsys) hd.1 fun I h₀ ep hIn hk₀ hit hat => ?_)
  replace hIn : s.heap.get? I = none := hIn
  replace hk₀ : ∀ b o, s.heap.get? b = some o → h₀.get? b = some o := hk₀
  have hDI : D ≠ I := ne_of_get' (DictOf_live hd.1) hIn
  have hcI : L + 1 ≠ I := ne_of_get' (cell_live hc) hIn
  have hd₀ : LDict prog w h₀ D g := hd.keeps hk₀
  have hrI : ∀ x ∈ g, x.2.1 ≠ I := fun x hx => let ⟨_, p1, _⟩ := hd.2 x hx; ne_of_get' (IsList_live p1.isList) hIn
  have ldOf : ∀ h₂ : Heap, (∀ b o, b ≠ I → h₀.get? b = some o → h₂.get? b = some o) → LDict prog w h₂ D g ∧ h₂.IsCell (L + 1) (some (.ref D)) := fun h₂ hk =>
    ⟨hd₀.fm (W := [I]) (fun b o hb e => hk b o (by simpa using hb) e) (by simpa using hDI) fun x hx => by simpa using hrI x hx, cell_keep (hc.keeps hk₀) fun o e => hk _ o hcI e⟩
  refine dict_at (p := fun _ => true) hh hDI hd₀ hgl ⟨hit, hat⟩ (fun C => by rfl) (by rfl) ?_ ?_ ?_
  · intro C s' mC x t hx hnC hmC hk
    exact tests_nil ⟨rfl, s'.heap, s'.toks, rfl, fun _ _ e => e⟩
  · intro C s' mC x t hx hnC hmC hk
    obtain ⟨hl, hcl⟩ := ldOf s'.heap hk
    obtain ⟨vs, p1, p2⟩ := hl.2 x hx
    refine slice_any (sub_gen (nm_cell (c := L + 1) (by rfl) hcl (nm_loc hnC hmC (row_of hl.nodup hx hl.1 ?_))))
    rw [evalPart_none]
    refine wpAny_pure (wpAny_pure ⟨x.2.1, vs.toArray, none, none, rfl, p1.isList, .none, .none, by rw [List.size_toArray, p2.length, sizeLine_eq]; have := hrl x hx; omega, fun h' T k' hTn hl' => ?_⟩)
    exact ⟨⟨h', _, rfl, k'⟩, T, (slicePick vs.toArray none none none).toList, rfl, by simpa using hl', kmk_all p2, .inr hTn⟩
  · intro B C h' tk gb mc hDz hDn hCn hDC hk hl' hkr hoff hnC hal
    replace hDz : h₀.objs.size ≤ B := hDz
    replace hCn : h₀.get? C = none := hCn
    replace hDn : h₀.get? B = none := hDn
    replace hk : ∀ b o, b ≠ I → h₀.get? b = some o → h'.get? b = some o := hk
    have hLI : L ≠ I := ne_of_get' (Ns_live hn) hIn
    have hLC : L ≠ C := ne_of_get' (Ns_live (hn.keeps hk₀)) hCn
    have hn' : h'.Ns L m := (hn.keeps hk₀).at' fun o e => hk L o hLI e
    have hBL : B ≠ L := Ne.symm (ne_of_get' (Ns_live (hn.keeps hk₀)) hDn)
    refine post_loc (env := envOfC lawD.name lawD.scope L a cd) (x := "before") (Q := fun _ s' => wpAny (model prog w) A (execs (lawBody 6) (envOfC lawD.name lawD.scope L a cd)) Q E s')
      (s := { s with heap := h', toks := tk }) (show h'.Ns L m from hn') hnC hLC (fun h₃ tok hn₃ hf₃ => ?_)
    replace hf₃ : Fm [L, C] h' h₃ := hf₃
    have hrc : ∀ y ∈ gb, y.2.1 ∉ [L, C] := fun y hy => by
      obtain ⟨vs, p1, _⟩ := hl'.2 y hy
      simp only [List.mem_cons, List.not_mem_nil, or_false, not_or]
      exact ⟨list_ne_ns p1.isList hn', (hoff y hy).1⟩
    refine h h₃ tok B gb (fun b o hb e => hf₃ b o ?_ (hk b o (ne_of_get e hIn) (hk₀ b o e))) hn₃ (hl'.fm hf₃ (by simp only [List.mem_cons, List.not_mem_nil, or_false, not_or]; exact ⟨hBL, hDC⟩) hrc) ?_ ?_
    · simp only [List.mem_cons, List.not_mem_nil, or_false, not_or]
      exact ⟨by simpa using hb, ne_of_get (hk₀ b o e) hCn⟩
    · obtain ⟨o, e⟩ := Ns_live hn
      exact Nat.lt_of_lt_of_le (Heap.lt_size (hk₀ _ _ e)) hDz
    · rw [hkr, List.filter_eq_self.mpr (fun _ _ => rfl)]
end
end Mine
end

-- part F9
section
open PySem PySem.W PyProof.Rows PySem.Calls
set_option maxRecDepth 100000
namespace Mine
section
variable {prog : Program} {w : World} {A : Around} {E : Value → Shared → Prop} {s : Shared} {env : Env}

def nats (n : Nat) : List Int := (List.range n).map fun i : Nat => (i : Int)
theorem nats_get {n i : Nat} (h : i < n) : (nats n)[i]? = some (i : Int) := by unfold nats; simp [h]
theorem mem_nats {n : Nat} {x : Int} : x ∈ nats n ↔ 0 ≤ x ∧ x < n := by
  unfold nats
  rw [List.mem_map]
  constructor
  · rintro ⟨i, hi, rfl⟩; have := List.mem_range.mp hi; omega
  · rintro ⟨h1, h2⟩; exact ⟨x.toNat, List.mem_range.mpr (by omega), by omega⟩
theorem Src.range {I : Addr} (n : Nat) (hh : A.handled = none) :
    Src prog w A I [I] (nats n) (fun i v => i < n ∧ ∃ t, v = .int (0 + (i : Nat) * 1) t) (fun i h => IsRangeIter h I (0 + (i : Nat) * 1) ((n : Int) - (i : Nat)) 1) where
  W := by
    have e : (nats n).length = n := by unfold nats; simp
    rw [e]; exact (Walks.range (prog := prog) (w := w) (A := A) hh I 0 1 n).bound
  val := fun i v h => by
    obtain ⟨hi, t, rfl⟩ := h
    exact ⟨(i : Int), t, by simp, nats_get hi⟩

theorem iter_range {n : Nat} {t : Tok} {Q : Value → Shared → Prop} (h7 : n ≤ 7)
    (h : ∀ I h' tk, s.heap.get? I = none → (∀ b o, s.heap.get? b = some o → h'.get? b = some o) → IsRangeIter h' I 0 n 1 → Q (.ref I) { s with heap := h', toks := tk }) :
    wpAny (model prog w) A (call (.type "range") [.int n t]) (fun xv s₁ => wpAny (model prog w) A (pyIter xv) Q E s₁) E s := by
  obtain ⟨r1, r2⟩ := range_small (sz := n) h7
  refine call_range_1 ?_
  refine wpAny_pyIter_range (Heap.get?_push_size _ rfl) r1 ?_
  rw [r2]
  dsimp only
  exact h _ _ _ (Heap.get?_none_of_le (by rw [Heap.size_push]; exact Nat.le_succ _)) (fun b o e => Heap.get?_push_of_some _ (Heap.get?_push_of_some _ e)) (Heap.get?_push_size _ rfl)

def nodeP (g : Rows3) (k : Int) : Bool := decide (k ∈ g.map (·.1)) || !decide ((g.map (·.1)).filter (fun n => decide (k ∈ adj g n)) = [])
def nodesOf (g : Rows3) : List Int := (nats 7).filter (nodeP g)

theorem adj_of {g : Rows3} (hk : (g.map (·.1)).Nodup) {x : Int × Addr × List Int} (hx : x ∈ g) : adj g x.1 = x.2.2 := by
  unfold adj; rw [rget_of_mem hk (show (x.1, x.2) ∈ g from hx)]; rfl

set_option maxHeartbeats 4000000 in
theorem law_nodes {L a : Addr} {cd : Value} {m mg mb : Str → Option Value} {D : Addr} {g : Rows3} {Q : Flow → Shared → Prop}
    (hh : A.handled = none) (hu : A.units + 72 < cLine) (hn : s.heap.Ns L m) (hc : s.heap.IsCell (L + 1) (some (.ref D))) (hd : LDict prog w s.heap D g) (hDs : sysModules < D) (hgl : g.length < 900) (G : Gl mg mb s.heap) (hmr : mg "range" = none)
    (h : ∀ h' tok N vs, Fm [L] s.heap h' → h'.Ns L (upd m "nodes" (.ref N)) → h'.PlainList N (List.toArray vs) → IntsAre vs (nodesOf g) → s.heap.get? N = none →
      wpAny (model prog w) A (execs (lawBody 7) (envOfC lawD.name lawD.scope L a cd)) Q E { s with heap := h', toks := tok }) :
    wpAny (model prog w) A (execs (lawBody 6) (envOfC lawD.name lawD.scope L a cd)) Q E s := by
  refine wpAny_execs_cons ?_
  refine Assign_ListComp_K (cl := [(("after" : Str), (L + 1 : Addr))]) (x0 := ".0") (x1 := "k") (x2 := "after") rfl (by rfl) (by rfl) (by rfl) (by rfl) (by decide) ?_
  refine Call_ (nm_built G hmr (by rfl) ?_)
  refine PyProof.Rows.callWith_type1 (PyProof.Rows.args_cons (wpAny_Constant_int (PyProof.Rows.args_nil ?_)))
  refine iter_range (n := 7) (by decide) fun I h₀ tk₀ hIn hk₀ hit => ?_
  replace hIn : s.heap.get? I = none := hIn
  replace hk₀ : ∀ b o, s.heap.get? b = some o → h₀.get? b = some o := hk₀
  have hDI : D ≠ I := ne_of_get' (DictOf_live hd.1) hIn
  have hcI : L + 1 ≠ I := ne_of_get' (cell_live hc) hIn
  have hd₀ : LDict prog w h₀ D g := hd.keeps hk₀
  have hrI : ∀ x ∈ g, x.2.1 ≠ I := fun x hx => let ⟨_, p1, _⟩ := hd.2 x hx; ne_of_get' (IsList_live p1.isList) hIn
  have ldOf : ∀ h₂ : Heap, (∀ b o, b ≠ I → h₀.get? b = some o → h₂.get? b = some o) → LDict prog w h₂ D g ∧ h₂.IsCell (L + 1) (some (.ref D)) := fun h₂ hk =>
    ⟨hd₀.fm (W := [I]) (fun b o hb e => hk b o (by simpa using hb) e) (by simpa using hDI) fun x hx => by simpa using hrI x hx, cell_keep (hc.keeps hk₀) fun o e => hk _ o hcI e⟩
  have hit' : (fun (i : Nat) (h : Heap) => IsRangeIter h I (0 + (i : Nat) * 1) (((7 : Nat) : Int) - (i : Nat)) 1) 0 h₀ := by simpa using hit
  refine filt_cell (p := nodeP g) (Src.range 7 hh) hit' (fun b hb => by rw [List.mem_singleton.mp hb]; exact ⟨_, hit⟩) (by simp) (by decide) (fun C K => by rfl) (by rfl) (by decide) (fun _ => rfl) ?_ ?_
  · intro C K s' k t hk hK hkp
    obtain ⟨hl, hcl⟩ := ldOf s'.heap hkp
    refine wpAny_isTrue_BoolOp (wpAny_allTrue_Or_cons (wpAny_isTrue_Compare1 (nm_cell (c := K) (by rfl) hK (nm_cell (c := L + 1) (by rfl) hcl ?_))))
    refine wpAny_in_of (knd := intKind prog w) (intKind_is prog w k t) (ne_sys hDs) hl.1.mapOf (wpAny_truthy_bool ?_)
    rw [isSome_keys (fun x : Addr × List Int => Value.ref x.1)]
    unfold nodeP
    by_cases hkk : k ∈ g.map (·.1)
    · rw [decide_eq_true hkk]
      simp only [if_true, Bool.true_or]
      exact ⟨by trivial, s'.heap, _, rfl, fun _ _ e => e⟩
    · rw [decide_eq_false hkk]
      simp only [Bool.false_eq_true, if_false, Bool.false_or]
      refine wpAny_allTrue_Or_cons (wpAny_isTrue_Compare1 ?_)
      refine ListComp_J (cl := [(("k" : Str), K), (("after" : Str), (L + 1 : Addr))]) (by rfl) (by decide) (by rfl) (by decide) ?_
      refine nm_cell (c := L + 1) (by rfl) hcl (iter_dict (ne_sys hDs) hl.1 fun I₂ h₃ ep hI₂n hk₃ hit₂ hat₂ => ?_)
      replace hI₂n : s'.heap.get? I₂ = none := hI₂n
      replace hk₃ : ∀ b o, s'.heap.get? b = some o → h₃.get? b = some o := hk₃
      have hDI₂ : D ≠ I₂ := ne_of_get' (DictOf_live hl.1) hI₂n
      refine filt_at (p := fun n => decide (k ∈ adj g n)) (Src.keys ep hh hDI₂) ⟨hit₂, hat₂⟩ (fun b hb => ?_) (by simp) (by simpa using hgl) (fun C => by rfl) (by rfl) (by decide) (fun _ => rfl) ?_ ?_
      · simp only [List.mem_cons, List.not_mem_nil, or_false] at hb
        rcases hb with q | q
        · rw [q]; obtain ⟨o, e, _⟩ := hit₂; exact ⟨o, e⟩
        · rw [q]; obtain ⟨o, e⟩ := DictOf_live hl.1; exact ⟨o, hk₃ _ _ e⟩
      · intro C₂ s₅ m₅ n tn hnk hn₅ hm₅ hk₅
        have k5 : ∀ b, (∃ o, s'.heap.get? b = some o) → ∀ o, s'.heap.get? b = some o → s₅.heap.get? b = some o := fun b hb o e => hk₅ b o (ne_of_get e hI₂n) (hk₃ b o e)
        have kk5 : ∀ b o, s'.heap.get? b = some o → s₅.heap.get? b = some o := fun b o e => k5 b ⟨o, e⟩ o e
        obtain ⟨x, hx, rfl⟩ := List.mem_map.mp hnk
        have hl₅ := hl.keeps kk5
        obtain ⟨vs, p1, p2⟩ := hl₅.2 x hx
        refine wpAny_isTrue_Compare1 (nm_cell (c := K) (by rfl) (hK.keeps kk5) (sub_gen (nm_cell (c := L + 1) (by rfl) (hcl.keeps kk5) (nm_loc hn₅ hm₅ (row_of hl₅.nodup hx hl₅.1 ?_)))))
        refine in_ints (s := { s₅ with toks := s₅.toks + 1 }) p1.isList p2 (wpAny_truthy_bool ⟨by rw [adj_of hl₅.nodup hx], _, _, rfl, fun _ _ e => e⟩)
      · intro D₂ C₂ h₄ tk₄ vs mc hD₂n hC₂n hDC₂ hk₄ hp₄ hi₄ hnC₂
        replace hC₂n : h₃.get? C₂ = none := hC₂n
        replace hk₄ : ∀ b o, b ≠ I₂ → h₃.get? b = some o → h₄.get? b = some o := hk₄
        refine post_none (s := { s' with heap := h₄, toks := tk₄ }) hnC₂ fun h₅ hs₅ => ?_
        replace hs₅ : Heap.SameBut C₂ h₄ h₅ := hs₅
        refine wpAny_List (wpAny_items_nil ⟨Nat.zero_le _, ?_⟩)
        dsimp only
        have kk : ∀ b o, s'.heap.get? b = some o → h₅.get? b = some o := fun b o e => hs₅.extBut b o (ne_of_get (hk₃ b o e) hC₂n) (hk₄ b o (ne_of_get e hI₂n) (hk₃ b o e))
        have hl5 : h₅.IsList D₂ vs.toArray := hp₄.isList.at fun o e => hs₅.extBut D₂ o hDC₂ e
        refine ke_ne_ints (ns := (g.map (·.1)).filter (fun n => decide (k ∈ adj g n))) (ms := []) (hl5.push _) ⟨_, Heap.get?_push_size _ rfl, rfl, 0, rfl⟩ hi₄ .nil (by omega) (wpAny_truthy_bool ?_)
        cases hb : (!decide ((g.map (·.1)).filter (fun n => decide (k ∈ adj g n)) = [])) with
        | true => simp only [if_true]; exact ⟨by first | trivial | exact hb.symm | rfl, _, _, rfl, fun b o e => Heap.get?_push_of_some _ (kk b o e)⟩
        | false => simp only [Bool.false_eq_true, if_false]; exact wpAny_allTrue_Or_nil ⟨by first | trivial | exact hb.symm | rfl, _, _, rfl, fun b o e => Heap.get?_push_of_some _ (kk b o e)⟩
  · intro N C h' tk vs mc hNn hCn hNC hk hp hi hnC
    replace hCn : h₀.get? C = none := hCn
    replace hNn : h₀.get? N = none := hNn
    replace hk : ∀ b o, b ≠ I → h₀.get? b = some o → h'.get? b = some o := hk
    have hLI : L ≠ I := ne_of_get' (Ns_live hn) hIn
    have hLC : L ≠ C := ne_of_get' (Ns_live (hn.keeps hk₀)) hCn
    have hn' : h'.Ns L m := (hn.keeps hk₀).at' fun o e => hk L o hLI e
    have hNL : N ≠ L := Ne.symm (ne_of_get' (Ns_live (hn.keeps hk₀)) hNn)
    refine post_loc (env := envOfC lawD.name lawD.scope L a cd) (x := "nodes") (Q := fun _ s' => wpAny (model prog w) A (execs (lawBody 7) (envOfC lawD.name lawD.scope L a cd)) Q E s')
      (s := { s with heap := h', toks := tk }) (show h'.Ns L m from hn') hnC hLC (fun h₃ tok hn₃ hf₃ => ?_)
    replace hf₃ : Fm [L, C] h' h₃ := hf₃
    refine h h₃ tok N vs (fun b o hb e => hf₃ b o ?_ (hk b o (ne_of_get e hIn) (hk₀ b o e))) hn₃ (hp.at fun o e => hf₃ N o (by simp only [List.mem_cons, List.not_mem_nil, or_false, not_or]; exact ⟨hNL, hNC⟩) e) hi ?_
    · simp only [List.mem_cons, List.not_mem_nil, or_false, not_or]
      exact ⟨by simpa using hb, ne_of_get (hk₀ b o e) hCn⟩
    · cases q : s.heap.get? N with
      | none => rfl
      | some o => rw [hk₀ _ _ q] at hNn; cases hNn
end
end Mine
end

-- part G1
section
open PySem PySem.W PyProof.Rows PySem.Calls
set_option maxRecDepth 100000
namespace Mine
section
variable {prog : Program} {w : World} {A : Around} {E : Value → Shared → Prop} {s : Shared} {env : Env}

def aliveStep (g : Rows3) (al : List Int) : List Int := (g.map (·.1)).filter fun n => !decide ((adj g n).filter (fun o => decide (o ∈ al)) = [])
def aliveN (g : Rows3) : Nat → List Int
  | 0 => nodesOf g
  | t + 1 => aliveStep g (aliveN g t)

def aliveBody : List Stmt := match lawBody 8 with
  | .For _ _ b _ _ :: _ => b
  | _ => []

set_option maxHeartbeats 4000000 in
theorem alive_turn {L a : Addr} {cd : Value} {m : Str → Option Value} {D Al : Addr} {g : Rows3} {al : List Int} {vsA : List Value} {Q : Flow → Shared → Prop}
    (hh : A.handled = none) (hu : A.units + 72 < cLine) (hn : s.heap.Ns L m) (hc : s.heap.IsCell (L + 1) (some (.ref D))) (hca : s.heap.IsCell (L + 2) (some (.ref Al))) (hA : s.heap.IsList Al vsA.toArray) (hAi : IntsAre vsA al)
    (hd : LDict prog w s.heap D g) (hDs : sysModules < D) (hgl : g.length < 900) (hrl : ∀ x ∈ g, x.2.2.length < 900)
    (h : ∀ h' tok Al' vs, Fm [L + 2] s.heap h' → h'.Ns L m → h'.IsCell (L + 2) (some (.ref Al')) → h'.PlainList Al' (List.toArray vs) → IntsAre vs (aliveStep g al) → s.heap.get? Al' = none → Q .next { s with heap := h', toks := tok }) :
    wpAny (model prog w) A (execs aliveBody (envOfC lawD.name lawD.scope L a cd)) Q E s := by
  refine wpAny_execs_cons (wpAny_Assign_Name ?_)
  refine ListComp_J (cl := [(("alive" : Str), (L + 2 : Addr)), (("after" : Str), (L + 1 : Addr))]) (by rfl) (by decide) (by rfl) (by decide) ?_
  refine nm_cell (c := L + 1) (by rfl) hc (iter_dict (ne_sys hDs) hd.1 fun I h₀ ep hIn hk₀ hit hat => ?_)
  have hDI : D ≠ I := ne_of_get' (DictOf_live hd.1) hIn
  have hcI : L + 1 ≠ I := ne_of_get' (cell_live hc) hIn
  have haI : L + 2 ≠ I := ne_of_get' (cell_live hca) hIn
  have hAI : Al ≠ I := ne_of_get' (IsList_live hA) hIn
  have hd₀ : LDict prog w h₀ D g := hd.keeps hk₀
  have hrI : ∀ x ∈ g, x.2.1 ≠ I := fun x hx => let ⟨_, p1, _⟩ := hd.2 x hx; ne_of_get' (IsList_live p1.isList) hIn
  have ldOf : ∀ h₂ : Heap, (∀ b o, b ≠ I → h₀.get? b = some o → h₂.get? b = some o) → LDict prog w h₂ D g ∧ h₂.IsCell (L + 1) (some (.ref D)) ∧ h₂.IsCell (L + 2) (some (.ref Al)) ∧ h₂.IsList Al vsA.toArray := fun h₂ hk =>
    ⟨hd₀.fm (W := [I]) (fun b o hb e => hk b o (by simpa using hb) e) (by simpa using hDI) fun x hx => by simpa using hrI x hx, cell_keep (hc.keeps hk₀) fun o e => hk _ o hcI e, cell_keep (hca.keeps hk₀) fun o e => hk _ o haI e,
      hA.at fun o e => hk _ o hAI (hk₀ _ _ e)⟩
  refine filt_at (p := fun n => !decide ((adj g n).filter (fun o => decide (o ∈ al)) = [])) (Src.keys ep hh hDI) ⟨hit, hat⟩ (fun b hb => ?_) (by simp) (by simpa using hgl) (fun C => by rfl) (by rfl) (by decide) (fun _ => rfl) ?_ ?_
  · simp only [List.mem_cons, List.not_mem_nil, or_false] at hb
    rcases hb with q | q
    · rw [q]; obtain ⟨o, e, _⟩ := hit; exact ⟨o, e⟩
    · rw [q]; obtain ⟨o, e⟩ := DictOf_live hd.1; exact ⟨o, hk₀ _ _ e⟩
  · intro C s' mC n t hnk hnC hmC hkp
    obtain ⟨hl, hcl, hcal, hAl⟩ := ldOf s'.heap hkp
    obtain ⟨x, hx, rfl⟩ := List.mem_map.mp hnk
    obtain ⟨vs, p1, p2⟩ := hl.2 x hx
    refine wpAny_isTrue_Compare1 ?_
    refine ListComp_J (cl := [(("alive" : Str), (L + 2 : Addr))]) (by rfl) (by decide) (by rfl) (by decide) ?_
    refine sub_gen (nm_cell (c := L + 1) (by rfl) hcl (nm_loc hnC hmC (row_of hl.nodup hx hl.1 ?_)))
    refine iter_list (s := { s' with toks := s'.toks + 1 }) p1.isList fun I₂ h₃ hI₂n hk₃ hit₂ => ?_
    replace hI₂n : s'.heap.get? I₂ = none := hI₂n
    replace hk₃ : ∀ b o, s'.heap.get? b = some o → h₃.get? b = some o := hk₃
    have hTI₂ : x.2.1 ≠ I₂ := ne_of_get' (IsList_live p1.isList) hI₂n
    refine filt_at (p := fun o => decide (o ∈ al)) (Src.list hh hTI₂ p2) ⟨hit₂, p1.isList.at (hk₃ _)⟩ (fun b hb => ?_) (by simp) (hrl x hx) (fun C => by rfl) (by rfl) (by decide) (fun _ => rfl) ?_ ?_
    · simp only [List.mem_cons, List.not_mem_nil, or_false] at hb
      rcases hb with q | q
      · rw [q]; obtain ⟨o, e, _⟩ := hit₂; exact ⟨o, e⟩
      · rw [q]; obtain ⟨o, e⟩ := IsList_live p1.isList; exact ⟨o, hk₃ _ _ e⟩
    · intro C₂ s₅ m₅ o1 to ho1 hn₅ hm₅ hk₅
      have kk5 : ∀ b o, s'.heap.get? b = some o → s₅.heap.get? b = some o := fun b o e => hk₅ b o (ne_of_get e hI₂n) (hk₃ b o e)
      refine wpAny_isTrue_Compare1 (nm_loc hn₅ hm₅ (nm_cell (c := L + 2) (by rfl) (hcal.keeps kk5) ?_))
      refine in_ints (hAl.at (kk5 _)) hAi (wpAny_truthy_bool ⟨rfl, _, _, rfl, fun _ _ e => e⟩)
    · intro D₂ C₂ h₄ tk₄ vs₂ mc hD₂n hC₂n hDC₂ hk₄ hp₄ hi₄ hnC₂
      replace hC₂n : h₃.get? C₂ = none := hC₂n
      replace hk₄ : ∀ b o, b ≠ I₂ → h₃.get? b = some o → h₄.get? b = some o := hk₄
      refine post_none (s := { s' with heap := h₄, toks := tk₄ }) hnC₂ fun h₅ hs₅ => ?_
      replace hs₅ : Heap.SameBut C₂ h₄ h₅ := hs₅
      refine wpAny_List (wpAny_items_nil ⟨Nat.zero_le _, ?_⟩)
      dsimp only
      have kk : ∀ b o, s'.heap.get? b = some o → h₅.get? b = some o := fun b o e => hs₅.extBut b o (ne_of_get (hk₃ b o e) hC₂n) (hk₄ b o (ne_of_get e hI₂n) (hk₃ b o e))
      have hl5 : h₅.IsList D₂ vs₂.toArray := hp₄.isList.at fun o e => hs₅.extBut D₂ o hDC₂ e
      refine ke_ne_ints (ms := []) (hl5.push _) ⟨_, Heap.get?_push_size _ rfl, rfl, 0, rfl⟩ hi₄ .nil (by omega) (wpAny_truthy_bool ?_)
      exact ⟨by rw [adj_of hl.nodup hx], _, _, rfl, fun b o e => Heap.get?_push_of_some _ (kk b o e)⟩
  · intro Al' C h' tk vs mc hNn hCn hNC hk hp hi hnC
    replace hCn : h₀.get? C = none := hCn
    replace hNn : h₀.get? Al' = none := hNn
    replace hk : ∀ b o, b ≠ I → h₀.get? b = some o → h'.get? b = some o := hk
    have hLI : L ≠ I := ne_of_get' (Ns_live hn) hIn
    have hLC : L ≠ C := ne_of_get' (Ns_live (hn.keeps hk₀)) hCn
    have hn' : h'.Ns L m := (hn.keeps hk₀).at' fun o e => hk L o hLI e
    have hcal' := (ldOf h' hk).2.2.1
    have haC : L + 2 ≠ C := ne_of_get' (cell_live (hca.keeps hk₀)) hCn
    have hAc : Al' ≠ L + 2 := Ne.symm (ne_of_get' (cell_live (hca.keeps hk₀)) hNn)
    refine post_none (s := { s with heap := h', toks := tk }) hnC fun h₂ hs₂ => ?_
    replace hs₂ : Heap.SameBut C h' h₂ := hs₂
    refine st_cell (c := L + 2) (by rfl) (hcal'.sameBut hs₂ haC) (fun h₃ hc₃ hs₃ => ?_)
    replace hs₃ : Heap.SameBut (L + 2) h₂ h₃ := hs₃
    refine wpAny_execs_nil ?_
    refine h h₃ _ Al' vs (fun b o hb e => hs₃.extBut b o (by simpa using hb) (hs₂.extBut b o (ne_of_get (hk₀ b o e) hCn) (hk b o (ne_of_get e hIn) (hk₀ b o e)))) ((hn'.sameBut hs₂ hLC).sameBut hs₃ (Nat.ne_of_lt (by omega))) hc₃
      (hp.at fun o e => hs₃.extBut Al' o hAc (hs₂.extBut Al' o hNC e)) hi ?_
    cases q : s.heap.get? Al' with
    | none => rfl
    | some o => rw [hk₀ _ _ q] at hNn; cases hNn
end
end Mine
end

-- part G2
section
open PySem PySem.W PyProof.Rows PySem.Calls
set_option maxRecDepth 100000
namespace Mine
section
variable {prog : Program} {w : World} {A : Around} {E : Value → Shared → Prop} {s : Shared} {env : Env}

set_option maxHeartbeats 4000000 in
theorem law_alive {L a : Addr} {cd : Value} {m mg mb : Str → Option Value} {D N : Addr} {g : Rows3} {sz : Nat} {ts : Tok} {vsN : List Value} {v₀ : Option Value} {Q : Flow → Shared → Prop}
    (hh : A.handled = none) (hu : A.units + 72 < cLine) (hn : s.heap.Ns L m) (hms : m "size" = some (.int sz ts)) (hsz : sz ≤ 7) (hmN : m "nodes" = some (.ref N)) (hN : s.heap.PlainList N vsN.toArray) (hNi : IntsAre vsN (nodesOf g))
    (hc : s.heap.IsCell (L + 1) (some (.ref D))) (hca : s.heap.IsCell (L + 2) v₀) (hd : LDict prog w s.heap D g) (hDs : sysModules < D) (hDL : L < D) (hgl : g.length < 900) (hrl : ∀ x ∈ g, x.2.2.length < 900) (G : Gl mg mb s.heap) (hmr : mg "range" = none)
    (h : ∀ h' tok m' Al vs, Fm [L, L + 2] s.heap h' → h'.Ns L m' → (∀ x : Str, x ≠ "times" → m' x = m x) → h'.IsCell (L + 2) (some (.ref Al)) → h'.PlainList Al (List.toArray vs) → IntsAre vs (aliveN g sz) →
      wpAny (model prog w) A (execs (lawBody 9) (envOfC lawD.name lawD.scope L a cd)) Q E { s with heap := h', toks := tok }) :
    wpAny (model prog w) A (execs (lawBody 7) (envOfC lawD.name lawD.scope L a cd)) Q E s := by
  refine wpAny_execs_cons (wpAny_Assign_Name (nm_loc hn hmN ?_))
  refine st_cell (c := L + 2) (by rfl) hca (fun h₁ hc₁ hs₁ => ?_)
  have hLc2 : L ≠ L + 2 := Nat.ne_of_lt (by omega)
  have hNl : N ≠ L := list_ne_ns hN.isList hn
  have hNc : N ≠ L + 2 := list_ne_cell hN.isList hca
  have hDc : D ≠ L + 2 := dict_ne_cell hd.1 hca
  have hDL' : D ≠ L := Nat.ne_of_gt hDL
  have hgl0 : ∀ b, b = mainGlobals ∨ b = builtinsNs ∨ b = cStatics → b ≠ L + 2 := fun b hb => by
    rcases hb with q | q | q
    · rw [q]; exact fun z => cell_ne_ns hca (z ▸ G.g) rfl
    · rw [q]; exact fun z => cell_ne_ns hca (z ▸ G.b) rfl
    · rw [q]; obtain ⟨mc, hmc, _⟩ := G.nl; exact fun z => cell_ne_ns hca (z ▸ hmc) rfl
  have G₁ : Gl mg mb h₁ := by
    obtain ⟨mc, hmc, hmc2⟩ := G.nl
    exact ⟨G.g.sameBut hs₁ (hgl0 _ (.inl rfl)), G.b.sameBut hs₁ (hgl0 _ (.inr (.inl rfl))), ⟨mc, hmc.sameBut hs₁ (hgl0 _ (.inr (.inr rfl))), hmc2⟩, G.bt⟩
  have hn₁ : h₁.Ns L m := hn.sameBut hs₁ hLc2
  have f₁ : Fm [L, L + 2] s.heap h₁ := Fm.same hs₁ (by simp)
  have hcc : L + 1 ≠ L + 2 := Nat.ne_of_lt (Nat.lt_succ_self _)
  refine wpAny_execs_cons (For_J (by rfl) (by rfl) ?_)
  refine Call_ (nm_built (s := { s with heap := h₁ }) G₁ hmr (by rfl) ?_)
  refine PyProof.Rows.callWith_type1 (PyProof.Rows.args_cons (nm_loc hn₁ hms (PyProof.Rows.args_nil ?_)))
  refine iter_range (s := { s with heap := h₁ }) (n := sz) hsz fun I h₀ tk₀ hIn hk₀ hit => ?_
  replace hIn : h₁.get? I = none := hIn
  replace hk₀ : ∀ b o, h₁.get? b = some o → h₀.get? b = some o := hk₀
  have hLI : L ≠ I := ne_of_get' (Ns_live hn₁) hIn
  have hcI2 : L + 2 ≠ I := ne_of_get' (cell_live hc₁) hIn
  have hIs : s.heap.get? I = none := by
    cases q : s.heap.get? I with
    | none => rfl
    | some o =>
      rcases Nat.decEq I (L + 2) with z | z
      · rw [hs₁.extBut I o z q] at hIn; cases hIn
      · exact absurd z.symm hcI2
  have W := (Src.range (prog := prog) (w := w) (A := A) (I := I) sz hh).W
  have hln : (nats sz).length = sz := by unfold nats; simp
  rw [hln] at W
  refine ⟨I, _, _, _, _, _, m, fun i m' s' => (∀ x : Str, x ≠ "times" → m' x = m x) ∧ (∃ tk, s' = { s with heap := s'.heap, toks := tk }) ∧ Fm [L, I, L + 2] s.heap s'.heap ∧
      ∃ Al vs, s'.heap.IsCell (L + 2) (some (.ref Al)) ∧ s'.heap.PlainList Al (List.toArray vs) ∧ IntsAre vs (aliveN g i) ∧ Al ∉ [L, I, L + 2], rfl, W, ?_, (by simpa using hit), hn₁.keeps hk₀, ?_, ?_, ?_, ?_⟩
  · show L ∉ [I]
    simpa using hLI
  · refine ⟨fun _ _ => rfl, ⟨_, rfl⟩, fun b o hb e => hk₀ b o (f₁ b o (fun q => hb ?_) e), N, vsN, hc₁.keeps hk₀, (hN.at fun o e => hs₁.extBut N o hNc e).at (hk₀ N), hNi, ?_⟩
    · simp only [List.mem_cons, List.not_mem_nil, or_false] at q ⊢
      rcases q with q | q
      · exact .inl q
      · exact .inr (.inr q)
    · simp only [List.mem_cons, List.not_mem_nil, or_false, not_or]
      exact ⟨hNl, ne_of_get' (IsList_live (hN.isList.at fun o e => hs₁.extBut N o hNc e)) hIn, hNc⟩
  · rintro i m' s' h' tk ⟨j1, ⟨tk', j2⟩, j3, Al, vs, j4, j5, j6, j7⟩ hf
    replace hf : Fm [L, I] s'.heap h' := hf
    have j7' := j7
    simp only [List.mem_cons, List.not_mem_nil, or_false, not_or] at j7'
    refine ⟨j1, ⟨tk, by rw [j2]⟩, j3.trans (hf.mono fun b hb => ?_), Al, vs, cell_keep j4 fun o e => hf _ o ?_ e, j5.at fun o e => hf Al o ?_ e, j6, j7⟩
    · simp only [List.mem_cons, List.not_mem_nil, or_false] at hb ⊢
      rcases hb with q | q
      · exact .inl q
      · exact .inr (.inl q)
    · simp only [List.mem_cons, List.not_mem_nil, or_false, not_or]; exact ⟨Ne.symm hLc2, hcI2⟩
    · simp only [List.mem_cons, List.not_mem_nil, or_false, not_or]; exact ⟨j7'.1, j7'.2.1⟩
  · rintro i v m' s' hi hv ⟨j1, ⟨tk', j2⟩, j3, Al, vs, j4, j5, j6, j7⟩ hst' hn'
    have hDW : D ∉ [L, I, L + 2] := by
      simp only [List.mem_cons, List.not_mem_nil, or_false, not_or]
      exact ⟨hDL', ne_of_get' (DictOf_live hd.1) hIs, hDc⟩
    have hdS : LDict prog w s'.heap D g := hd.fm j3 hDW fun y hy => by
      obtain ⟨us, p1, _⟩ := hd.2 y hy
      simp only [List.mem_cons, List.not_mem_nil, or_false, not_or]
      exact ⟨list_ne_ns p1.isList hn, ne_of_get' (IsList_live p1.isList) hIs, list_ne_cell p1.isList hca⟩
    have hcS : s'.heap.IsCell (L + 1) (some (.ref D)) := cell_keep hc fun o e => j3 _ o (by
      simp only [List.mem_cons, List.not_mem_nil, or_false, not_or]
      exact ⟨Nat.succ_ne_self L, ne_of_get e hIs, hcc⟩) e
    refine wpAny_mono (alive_turn (a := a) (cd := cd) (E := fun _ _ => False) hh hu hn' hcS j4 j5.isList j6 hdS hDs hgl hrl
      (Q := fun f s₃ => f = .next ∧ ∃ h' tok Al' vs', s₃ = { s' with heap := h', toks := tok } ∧ Fm [L + 2] s'.heap h' ∧ h'.Ns L (upd m' "times" v) ∧ h'.IsCell (L + 2) (some (.ref Al')) ∧ h'.PlainList Al' (List.toArray vs') ∧ IntsAre vs' (aliveStep g (aliveN g i)) ∧ s'.heap.get? Al' = none)
      (fun h' tok Al' vs' a1 a2 a3 a4 a5 a6 => ⟨rfl, h', tok, Al', vs', rfl, a1, a2, a3, a4, a5, a6⟩)) ?_ fun _ _ e => e
    rintro f s₃ ⟨rfl, h', tok, Al', vs', rfl, a1, a2, a3, a4, a5, a6⟩
    have hIl : ∃ o, s'.heap.get? I = some o := ⟨_, hst'⟩
    refine ⟨_, a2, fun b hb o e => a1 b o ?_ e, fun x hx => by rw [upd_ne hx]; exact j1 x hx, ⟨tok, by rw [j2]⟩, j3.trans (a1.mono fun b hb => ?_), Al', vs', a3, a4, a5, ?_⟩
    · rw [List.mem_singleton.mp hb]; simpa using Ne.symm hcI2
    · rw [List.mem_singleton.mp hb]; simp
    · simp only [List.mem_cons, List.not_mem_nil, or_false, not_or]
      exact ⟨Ne.symm (ne_of_get' (Ns_live hn') a6), Ne.symm (ne_of_get' hIl a6), Ne.symm (ne_of_get' (cell_live j4) a6)⟩
  · rintro m' s' ⟨j1, ⟨tk', j2⟩, j3, Al, vs, j4, j5, j6, j7⟩ hn'
    rw [j2]
    refine h _ _ m' Al vs (fun b o hb e => j3 b o ?_ e) hn' j1 j4 j5 j6
    simp only [List.mem_cons, List.not_mem_nil, or_false, not_or] at hb ⊢
    exact ⟨hb.1, ne_of_get e hIs, hb.2⟩
end
end Mine
end

-- part H1
section
open PySem PySem.W PyProof.Rows PySem.Calls
set_option maxRecDepth 100000
namespace Mine

/-- the graph that the law builds -/
structure WG (sz : Nat) (g : Rows3) : Prop where
  keys : (g.map (·.1)).Nodup
  rows : ∀ x ∈ g, x.2.2.Nodup
  sub : ∀ x, Vx g x → x ∈ nms sz

theorem nm_range (k : Nat) : 0 ≤ nm k ∧ nm k < 7 := ⟨Int.emod_nonneg _ (by decide), Int.emod_lt_of_pos _ (by decide)⟩
theorem nms_range {sz : Nat} {x : Int} (h : x ∈ nms sz) : 0 ≤ x ∧ x < 7 := by
  obtain ⟨k, _, rfl⟩ := List.mem_map.mp h
  exact nm_range k

theorem kr_keys {g : Rows3} : g.map (·.1) = (kr g).map (·.1) := by unfold kr; rw [List.map_map]; rfl
theorem mem_kr {g : Rows3} {k : Int} {r : List Int} : (k, r) ∈ kr g ↔ ∃ x ∈ g, x.1 = k ∧ x.2.2 = r := by
  unfold kr
  simp only [List.mem_map, Prod.mk.injEq]
theorem edg_kr {g g' : Rows3} (h : kr g = kr g') (u v : Int) : (u, v) ∈ edg g ↔ (u, v) ∈ edg g' := by
  have key : ∀ g : Rows3, (u, v) ∈ edg g ↔ ∃ r, (u, r) ∈ kr g ∧ v ∈ r := fun g => by
    rw [mem_edg]
    constructor
    · rintro ⟨x, hx, e, hv⟩; exact ⟨x.2.2, mem_kr.mpr ⟨x, hx, e, rfl⟩, hv⟩
    · rintro ⟨r, hr, hv⟩
      obtain ⟨x, hx, e1, e2⟩ := mem_kr.mp hr
      exact ⟨x, hx, e1, e2 ▸ hv⟩
  rw [key, key, h]
theorem Vx_kr {g g' : Rows3} (h : kr g = kr g') (x : Int) : Vx g x ↔ Vx g' x := by
  unfold Vx
  rw [kr_keys, kr_keys, h]
  exact or_congr Iff.rfl (exists_congr fun u => edg_kr h u x)

theorem WG.of_GG {sz : Nat} {g : Rows3} (h6 : sz ≤ 6) (G : GG sz g) : WG sz g := by
  refine ⟨G.keys ▸ nms_nodup h6, G.nodup, fun x hx => ?_⟩
  rcases hx with h | ⟨u, h⟩
  · exact G.keys ▸ h
  · obtain ⟨y, hy, _, hv⟩ := mem_edg.mp h
    exact G.sub y hy _ hv
theorem WG.filter {sz : Nat} {g : Rows3} (W : WG sz g) (p : Int × Addr × List Int → Bool) : WG sz (g.filter p) := by
  refine ⟨W.keys.sublist (List.filter_sublist.map _), fun x hx => W.rows x (List.mem_filter.mp hx).1, fun x hx => W.sub x ?_⟩
  rcases hx with h | ⟨u, h⟩
  · obtain ⟨y, hy, e⟩ := List.mem_map.mp h
    exact .inl (List.mem_map.mpr ⟨y, (List.mem_filter.mp hy).1, e⟩)
  · obtain ⟨y, hy, e, hv⟩ := mem_edg.mp h
    exact .inr ⟨u, mem_edg.mpr ⟨y, (List.mem_filter.mp hy).1, e, hv⟩⟩
theorem WG.kr {sz : Nat} {g g' : Rows3} (W : WG sz g) (h : kr g' = kr g) : WG sz g' := by
  refine ⟨by rw [kr_keys, h, ← kr_keys]; exact W.keys, fun x hx => ?_, fun x hx => W.sub x ((Vx_kr h x).mp hx)⟩
  have : (x.1, x.2.2) ∈ Mine.kr g := h ▸ mem_kr.mpr ⟨x, hx, rfl, rfl⟩
  obtain ⟨y, hy, _, e⟩ := mem_kr.mp this
  exact e ▸ W.rows y hy

theorem WG.len {sz : Nat} {g : Rows3} (W : WG sz g) : g.length ≤ sz := by
  have := nodup_length_le (g.map (·.1)) (nms sz) W.keys fun x hx => W.sub x (.inl hx)
  rwa [List.length_map, nms_len] at this
theorem WG.rowlen {sz : Nat} {g : Rows3} (W : WG sz g) {x : Int × Addr × List Int} (hx : x ∈ g) : x.2.2.length ≤ sz := by
  have := nodup_length_le x.2.2 (nms sz) (W.rows x hx) fun v hv => W.sub v (.inr ⟨x.1, mem_edg.mpr ⟨x, hx, rfl, hv⟩⟩)
  rwa [nms_len] at this
theorem WG.edges {sz : Nat} {g : Rows3} (W : WG sz g) (h6 : sz ≤ 6) : (edg g).length ≤ 36 := by
  have key : ∀ l : Rows3, (∀ x ∈ l, x.2.2.length ≤ 6) → (edg l).length ≤ 6 * l.length := by
    intro l
    induction l with
    | nil => intro _; simp [edg]
    | cons x r ih =>
      intro h
      have h1 := h x (.head _)
      have h2 := ih fun y hy => h y (.tail _ hy)
      have e : edg (x :: r) = (x.2.2.map fun v => (x.1, v)) ++ edg r := rfl
      rw [e, List.length_append, List.length_map, List.length_cons]
      omega
  have := key g fun x hx => Nat.le_trans (W.rowlen hx) h6
  have := W.len
  omega

theorem nodeP_iff {g : Rows3} (hk : (g.map (·.1)).Nodup) {k : Int} : nodeP g k = true ↔ Vx g k := by
  unfold nodeP Vx
  rw [Bool.or_eq_true, decide_eq_true_eq, Bool.not_eq_true', decide_eq_false_iff_not]
  refine or_congr Iff.rfl ⟨fun h => ?_, fun ⟨u, hu⟩ h => ?_⟩
  · obtain ⟨n, hn⟩ := List.exists_mem_of_ne_nil _ h
    rw [List.mem_filter, decide_eq_true_eq] at hn
    exact ⟨n, (mem_adj hk).mp hn.2⟩
  · have : u ∈ (g.map (·.1)).filter (fun n => decide (k ∈ adj g n)) := List.mem_filter.mpr ⟨Vx_left hu, by rw [decide_eq_true_eq]; exact (mem_adj hk).mpr hu⟩
    rw [h] at this; cases this
theorem mem_nodes {sz : Nat} {g : Rows3} (W : WG sz g) {x : Int} : x ∈ nodesOf g ↔ Vx g x := by
  unfold nodesOf
  rw [List.mem_filter, nodeP_iff W.keys, mem_nats]
  exact ⟨fun h => h.2, fun h => ⟨by have := nms_range (W.sub x h); omega, h⟩⟩
theorem mem_step {g : Rows3} (hk : (g.map (·.1)).Nodup) {al : List Int} {x : Int} : x ∈ aliveStep g al ↔ ∃ o, (x, o) ∈ edg g ∧ o ∈ al := by
  unfold aliveStep
  rw [List.mem_filter, Bool.not_eq_true', decide_eq_false_iff_not]
  constructor
  · rintro ⟨_, h⟩
    obtain ⟨o, ho⟩ := List.exists_mem_of_ne_nil _ h
    rw [List.mem_filter, decide_eq_true_eq] at ho
    exact ⟨o, (mem_adj hk).mp ho.1, ho.2⟩
  · rintro ⟨o, ho, hal⟩
    refine ⟨Vx_left ho, fun h => ?_⟩
    have : o ∈ (adj g x).filter (fun o => decide (o ∈ al)) := List.mem_filter.mpr ⟨(mem_adj hk).mpr ho, by rw [decide_eq_true_eq]; exact hal⟩
    rw [h] at this; cases this

theorem alive_bad {sz : Nat} {g : Rows3} (W : WG sz g) (h : KBad g) (t : Nat) : aliveN g t ≠ [] := by
  obtain ⟨C, ⟨v, hv⟩, hC⟩ := h
  have key : ∀ t, ∃ v, C v ∧ v ∈ aliveN g t := by
    intro t
    induction t with
    | zero => exact ⟨v, hv, (mem_nodes W).mpr (hC v hv).1⟩
    | succ t ih =>
      obtain ⟨x, hx, hal⟩ := ih
      obtain ⟨_, u, hu, he⟩ := hC x hx
      exact ⟨u, hu, (mem_step W.keys).mpr ⟨x, he, hal⟩⟩
  obtain ⟨x, _, hx⟩ := key t
  exact List.ne_nil_of_mem hx

theorem alive_good {sz : Nat} {g : Rows3} (W : WG sz g) {L : List Int} (K : KOk g L) : aliveN g sz = [] := by
  have key : ∀ t v, v ∈ aliveN g t → ∃ i, L[i]? = some v ∧ i + t < L.length := by
    intro t
    induction t with
    | zero =>
      intro v hv
      have : v ∈ L := (K.all v).mpr ((mem_nodes W).mp hv)
      obtain ⟨i, hi, e⟩ := List.mem_iff_getElem.mp this
      exact ⟨i, by rw [List.getElem?_eq_getElem hi, e], hi⟩
    | succ t ih =>
      intro v hv
      obtain ⟨o, he, ho⟩ := (mem_step W.keys).mp hv
      obtain ⟨j, hj, hlt⟩ := ih o ho
      have hm := K.ord j o hj v he
      obtain ⟨i, hi, e⟩ := List.mem_iff_getElem.mp hm
      have hij : i < j := by rw [List.length_take] at hi; omega
      refine ⟨i, ?_, by omega⟩
      rw [List.getElem_take] at e
      rw [List.getElem?_eq_getElem (by rw [List.length_take] at hi; omega), e]
  have hlen : L.length ≤ sz := by
    have := nodup_length_le L (nms sz) K.nd fun x hx => W.sub x ((K.all x).mp hx)
    rwa [nms_len] at this
  refine List.eq_nil_iff_forall_not_mem.mpr fun v hv => ?_
  obtain ⟨i, _, h⟩ := key sz v hv
  omega
end Mine
end

-- part H2
section
open PySem PySem.W PyProof.Rows PySem.Calls
set_option maxRecDepth 100000
namespace Mine
section
variable {prog : Program} {w : World} {A : Around} {E : Value → Shared → Prop} {s : Shared} {env : Env} {R : Result → Shared → Prop}

def Turn2 (t1 i1 i2 e : Expr) (f1 : List Expr) (it acc : Value) (env : Env) : Sem Fin := do
  standAt i1.pos
  match ← pyNext it with
  | none => pure (.done .next)
  | some v =>
    letOwnedTupleGo t1 it v
    assign t1 env v
    let mut ok := true
    for c in f1 do
      if ok then ok ← isTrue c env (eval c env)
    if ok then
      let x ← eval i2 env
      standAt i2.pos
      let x ← foldedSetIterable i2 env x
      let _ ← runOwn (.compStart e 1 (← holding [x] (pyIter x)) acc env) env
    again (.compLoop e 0 it acc env)

theorem turn2_eq {t1 t2 i1 i2 elt : Expr} {f1 f2 : List Expr} {scope : Scope} {pos : Pos} {it acc : Value} :
    compTurn (.ListComp elt [⟨t1, i1, f1, 0⟩, ⟨t2, i2, f2, 0⟩] scope pos) 0 it acc env = Turn2 t1 i1 i2 (.ListComp elt [⟨t1, i1, f1, 0⟩, ⟨t2, i2, f2, 0⟩] scope pos) f1 it acc env := by rfl

theorem loop0 {t1 t2 i1 i2 elt : Expr} {f2 : List Expr} {scope : Scope} {pos : Pos} {D I : Addr} {fp wr : List Addr} {n : Nat} {P : Nat → Value → Prop} {St : Nat → Heap → Prop}
    (W : Walks prog w A I fp wr n P St) (J : Nat → Shared → Prop) (hst : St 0 s.heap) (h0 : J 0 s) (ht : ∀ v, letOwnedTupleGo t1 (.ref I) v = pure ())
    (hs : ∀ x, foldedSetIterable i2 env x = pure x)
    (step : ∀ i v s h' tk, i < n → P i v → J i s → St (i + 1) h' → Fm wr s.heap h' →
      wpAny (model prog w) A (assign t1 env v) (fun _ s₂ => wpAny (model prog w) A (eval i2 env) (fun x s₃ => wpAny (model prog w) A (pyIter x) (fun it s₄ =>
        codeAny (model prog w) A (.compStart (.ListComp elt [⟨t1, i1, [], 0⟩, ⟨t2, i2, f2, 0⟩] scope pos) 1 it (.ref D) env) (fun r s₅ => match r with | .ok _ => St (i + 1) s₅.heap ∧ J (i + 1) s₅ | .error _ => False) s₄)
        (fun _ _ => False) s₃) (fun _ _ => False) s₂) (fun _ _ => False) { s with heap := h', toks := tk })
    (fin : ∀ s h' tk, J n s → Fm wr s.heap h' → R (.ok .next) { s with heap := h', toks := tk }) :
    codeAny (model prog w) A (.compStart (.ListComp elt [⟨t1, i1, [], 0⟩, ⟨t2, i2, f2, 0⟩] scope pos) 0 (.ref I) (.ref D) env) R s := by
  have loop : codeAny (model prog w) A (.compLoop (.ListComp elt [⟨t1, i1, [], 0⟩, ⟨t2, i2, f2, 0⟩] scope pos) 0 (.ref I) (.ref D) env) R s := by
    refine codeAny_loop (by rfl) (fun k s' => ∃ i, k = n + 1 - i ∧ i ≤ n ∧ St i s'.heap ∧ J i s') ?_ (n + 1) ⟨0, rfl, Nat.zero_le _, hst, h0⟩
    rintro k s' ⟨i, rfl, hi, hst', hJ⟩
    show wpAny _ A ((compTurn (.ListComp elt [⟨t1, i1, [], 0⟩, ⟨t2, i2, f2, 0⟩] scope pos) 0 (.ref I) (.ref D) env).onRaise (fun x => do noteFrame x env; theTreesLotGoes x)) _ _ _
    rw [turn2_eq]
    refine wpAny_noted ?_
    unfold Turn2
    refine wpAny_bind (wpAny_standAt (wpAny_bind ?_))
    by_cases hlt : i < n
    · refine W.item i _ _ _ hlt hst' fun v h₁ tk₁ hP hst₁ hk₁ => ?_
      refine wpAny_bind (wpAny_of_eq (ht v) ?_)
      refine wpAny_bind (wpAny_mono (step i v s' h₁ tk₁ hlt hP hJ hst₁ fun b o hb e => hk₁ b o hb e) (fun _ s₂ h₂ => ?_) fun _ _ f => f.elim)
      refine wpAny_bind (wpAny_pure ?_)
      simp only [if_true]
      refine wpAny_bind (wpAny_mono h₂ (fun x s₃ h₃ => ?_) fun _ _ f => f.elim)
      refine wpAny_bind (wpAny_standAt (wpAny_bind (wpAny_of_eq (hs x) ?_)))
      refine wpAny_bind (wpAny_holding (wpAny_mono h₃ (fun it s₄ h₄ => ?_) fun _ _ f => f.elim))
      refine wpAny_bind (wpAny_runOwn (codeAny_mono h₄ fun r s₅ h₅ => ?_))
      cases r with
      | error e => exact h₅.elim
      | ok f => exact wpAny_pure ⟨rfl, n + 1 - (i + 1), by omega, i + 1, rfl, hlt, h₅⟩
    · have hin : i = n := by omega
      subst hin
      refine W.done _ _ _ hst' fun h₁ tk₁ hk₁ => ?_
      exact wpAny_pure (fin s' h₁ tk₁ hJ fun b o hb e => hk₁ b o hb e)
  exact codeAny_compStart_list loop (W.self 0 _ _ _ hst loop)

theorem start1 {t1 t2 i1 i2 elt : Expr} {f1 f2 : List Expr} {scope : Scope} {pos : Pos} {it acc : Value}
    (h0 : codeAny (model prog w) A (.compLoop (.ListComp elt [⟨t1, i1, f1, 0⟩, ⟨t2, i2, f2, 0⟩] scope pos) 1 it acc env) R s)
    (h : wpAny (model prog w) A (pyIter it) (fun it' s' => codeAny (model prog w) A (.compLoop (.ListComp elt [⟨t1, i1, f1, 0⟩, ⟨t2, i2, f2, 0⟩] scope pos) 1 it' acc env) R s') (notedBy (model prog w) A env fun x s' => R (.error x) s') s) :
    codeAny (model prog w) A (.compStart (.ListComp elt [⟨t1, i1, f1, 0⟩, ⟨t2, i2, f2, 0⟩] scope pos) 1 it acc env) R s := by
  refine codeAny_of_tree ?_
  show wpAny _ _ ((compStart (.ListComp elt [⟨t1, i1, f1, 0⟩, ⟨t2, i2, f2, 0⟩] scope pos) 1 it acc env).onRaise (fun x => do noteFrame x env; standAt theWindowsPlace)) _ _ s
  refine wpAny_notedAt ?_
  unfold compStart
  show wpAny _ _ (ask >>= _) _ _ s
  refine wpAny_bind (wpAny_askSetting (wpAny_ite ?_))
  split
  · first
      | exact wpAny_bind (wpAny_pure (wpAny_pure (And.intro rfl h0)))
      | exact wpAny_pure (And.intro rfl h0)
  · first
      | exact wpAny_bind (wpAny_rule (wpAny_bind (wpAny_standAt (wpAny_bind (wpAny_mono h (fun it' s' h' => wpAny_pure (And.intro rfl h')) fun _ _ x => x)))))
      | (refine wpAny_bind (wpAny_rule ?_); show wpAny _ _ (standAt i2.pos >>= _) _ _ s; exact wpAny_bind (wpAny_standAt (wpAny_bind (wpAny_mono h (fun it' s' h' => wpAny_pure (And.intro rfl h')) fun _ _ x => x))))

theorem loop1 {t1 t2 i1 i2 elt : Expr} {f1 f2 : List Expr} {scope : Scope} {pos : Pos} {D I : Addr} {fp wr : List Addr} {n : Nat} {P : Nat → Value → Prop} {St : Nat → Heap → Prop}
    (W : Walks prog w A I fp wr n P St) (J : Nat → Shared → Prop) (hst : St 0 s.heap) (h0 : J 0 s) (ht : ∀ v, letOwnedTupleGo t2 (.ref I) v = pure ())
    (step : ∀ i v s h' tk, i < n → P i v → J i s → St (i + 1) h' → Fm wr s.heap h' →
      wpAny (model prog w) A (assign t2 env v) (fun _ s₂ => wpAny (model prog w) A (tests f2 env) (fun ok s₃ =>
        if ok = true then wpAny (model prog w) A (bodyList elt D env) (fun _ s₄ => St (i + 1) s₄.heap ∧ J (i + 1) s₄) (fun _ _ => False) s₃
        else St (i + 1) s₃.heap ∧ J (i + 1) s₃) (fun _ _ => False) s₂) (fun _ _ => False) { s with heap := h', toks := tk })
    (fin : ∀ s h' tk, J n s → Fm wr s.heap h' → R (.ok .next) { s with heap := h', toks := tk }) :
    codeAny (model prog w) A (.compStart (.ListComp elt [⟨t1, i1, f1, 0⟩, ⟨t2, i2, f2, 0⟩] scope pos) 1 (.ref I) (.ref D) env) R s := by
  have loop := compLoop_gen (prog := prog) (w := w) (A := A) (R := R) (s := s) (env := env) (c := .compLoop (.ListComp elt [⟨t1, i1, f1, 0⟩, ⟨t2, i2, f2, 0⟩] scope pos) 1 (.ref I) (.ref D) env) (tgt := t2) (iter := i2) (ifs := f2)
    (body := bodyList elt D env)
    (by rfl) rfl rfl W J hst h0 ht step fin
  exact start1 loop (W.self 0 _ _ _ hst loop)

theorem methodOn_index {pos : Pos} {l : Addr} {vs : List Value} {ns : List Int} {u : Sem Value} {Q : Value → Shared → Prop} (hl : s.heap.IsList l vs.toArray) (hi : IntsAre vs ns) (hlay : PyData.layable0 (.list (ns.map .int)) = true)
    (h : wpAny (model prog w) A u (fun v s₁ => ∃ k t, v = .int k t ∧ k ∈ ns ∧ s₁.heap = s.heap ∧ Q (.int (ns.idxOf k : Nat) s₁.toks) { s₁ with toks := s₁.toks + 1 }) E s)
    (hdict : ∀ b, Value.ref l = .ref b → ∃ ob, s.heap.get? b = some ob ∧ ob.dict = none) :
    MethodOn prog w A "index" pos (.ref l) [(false, u)] Q E s := by
  refine ⟨"list", "list.index", PySem.F.plainAttrs_list, PySem.F.slot_list_index, PySem.F.type_list_index, hl.typeIs, hdict, ?_⟩
  refine callWith_builtin rfl (evalArgs_plain (spliced_cons (wpAny_mono h (fun v s₁ ⟨k, t, e, hk, eh, hQ⟩ => spliced_nil ?_) fun _ _ e => e)))
  subst e
  exact index_list_ints (eh ▸ hl) hi hlay hk hQ
end
end Mine
end

-- part H3
section
open PySem PySem.W PyProof.Rows PySem.Calls
set_option maxRecDepth 100000
namespace Mine

theorem idx_lt {g : Rows3} {L : List Int} (K : KOk g L) {u v : Int} (h : (u, v) ∈ edg g) : L.idxOf u < L.idxOf v := by
  have hv : v ∈ L := (K.all v).mpr (.inr ⟨u, h⟩)
  have hj : L.idxOf v < L.length := List.idxOf_lt_length_iff.mpr hv
  have hu := K.ord (L.idxOf v) v (by rw [List.getElem?_eq_getElem hj, List.getElem_idxOf hj]) u h
  have h1 : (L.take (L.idxOf v)).idxOf u < (L.take (L.idxOf v)).length := List.idxOf_lt_length_iff.mpr hu
  have h2 : L.idxOf u = (L.take (L.idxOf v)).idxOf u := by
    conv => lhs; rw [← List.take_append_drop (L.idxOf v) L]
    rw [List.idxOf_append, if_pos hu]
  rw [h2]
  rw [List.length_take] at h1
  omega

section
variable {prog : Program} {w : World} {A : Around} {E : Value → Shared → Prop} {s : Shared} {env : Env} {R : Result → Shared → Prop}

def lastE : Expr := match lawBody 11 with
  | [.Return (some (.Compare l _ _ _)) _] => l
  | _ => .Constant .none 0 ⟨0, 0, 0, 0⟩

set_option maxHeartbeats 4000000 in
theorem told_comp {L a : Addr} {cd : Value} {D LL : Addr} {g : Rows3} {Lst : List Int} {vsL : List Value} {Q : Value → Shared → Prop}
    (hh : A.handled = none) (hc : s.heap.IsCell (L + 1) (some (.ref D))) (hct : s.heap.IsCell (L + 3) (some (.ref LL))) (hL : s.heap.PlainList LL (List.toArray vsL)) (hLi : IntsAre vsL Lst) (hLl : PyData.layable0 (.list (Lst.map .int)) = true) (hd : LDict prog w s.heap D g) (hDs : sysModules < D)
    (K : KOk g Lst) (h : ∀ h' tok D2, (∀ b o, s.heap.get? b = some o → h'.get? b = some o) → h'.PlainList D2 ([] : List Value).toArray → Q (.ref D2) { s with heap := h', toks := tok }) :
    wpAny (model prog w) A (eval lastE (envOfC lawD.name lawD.scope L a cd)) Q E s := by
  refine ListComp_J (cl := [(("told" : Str), (L + 3 : Addr)), (("after" : Str), (L + 1 : Addr))]) (by rfl) (by decide) (by rfl) (by decide) ?_
  refine nm_cell (c := L + 1) (by rfl) hc (iter_dict (ne_sys hDs) hd.1 fun I h₀ ep hIn hk₀ hit hat => ?_)
  have hDI : D ≠ I := ne_of_get' (DictOf_live hd.1) hIn
  have hIl : ∃ o, h₀.get? I = some o := let ⟨o, e, _⟩ := hit; ⟨o, e⟩
  intro D2 C h₁ tk hDn hCn hDC hk₁ hD₁ hC₁ _
  replace hDn : h₀.get? D2 = none := hDn
  replace hCn : h₀.get? C = none := hCn
  replace hk₁ : ∀ b o, h₀.get? b = some o → h₁.get? b = some o := hk₁
  have hCI : C ≠ I := Ne.symm (ne_of_get' hIl hCn)
  have hDI2 : D2 ≠ I := Ne.symm (ne_of_get' hIl hDn)
  have S := Src.keys (prog := prog) (w := w) (A := A) (I := I) (d := D) (g := g) ep hh hDI
  have hdC : ∀ b, (∃ o, s.heap.get? b = some o) → b ≠ C ∧ b ≠ D2 ∧ b ≠ I := fun b ⟨o, e⟩ => ⟨ne_of_get (hk₀ b o e) hCn, ne_of_get (hk₀ b o e) hDn, ne_of_get e hIn⟩
  have hfp : ∀ b ∈ [I, D], b ≠ C := fun b hb => by
    simp only [List.mem_cons, List.not_mem_nil, or_false] at hb
    rcases hb with q | q
    · rw [q]; exact Ne.symm hCI
    · rw [q]; exact (hdC D (DictOf_live hd.1)).1
  refine loop0 S.W (fun i s' => (∃ tk, s' = { s with heap := s'.heap, toks := tk }) ∧ (∀ b o, s.heap.get? b = some o → s'.heap.get? b = some o) ∧ (∃ mc, s'.heap.Ns C mc) ∧ s'.heap.PlainList D2 ([] : List Value).toArray)
    (S.W.frame _ _ _ ⟨hit, hat⟩ fun b _ o e => hk₁ b o e) ⟨⟨_, rfl⟩, fun b o e => hk₁ b o (hk₀ b o e), ⟨_, hC₁⟩, 0, hD₁⟩ (fun _ => rfl) (fun _ => rfl) ?_ ?_
  · rintro i v s' h' tk' hi hP ⟨⟨tk₀, e0⟩, j2, ⟨mc, j3⟩, j4⟩ hst' hw
    obtain ⟨k, t, rfl, hk⟩ := S.val i v hP
    obtain ⟨x, hxi, ekx⟩ : ∃ x, g[i]? = some x ∧ x.1 = k := by
      rw [List.getElem?_map, Option.map_eq_some_iff] at hk
      exact hk
    subst ekx
    have hxg : x ∈ g := List.mem_of_getElem? hxi
    have hn' : h'.Ns C mc := j3.at' fun o e => hw C o (by simpa using hCI) e
    refine wpAny_assign_Name (wpAny_storeName_local (by rfl) (show h'.Ns C mc from hn') (fun h₂ hn₂ hs₂ => ?_) (by rfl))
    replace hn₂ : h₂.Ns C (upd mc "name" (.int x.1 t)) := hn₂
    replace hs₂ : Heap.SameBut C h' h₂ := hs₂
    have kk : ∀ b o, s.heap.get? b = some o → h₂.get? b = some o := fun b o e => hs₂.extBut b o (hdC b ⟨o, e⟩).1 (hw b o (by simpa using (hdC b ⟨o, e⟩).2.2) (j2 b o e))
    have hl₂ : h₂.PlainList D2 ([] : List Value).toArray := j4.at fun o e => hs₂.extBut D2 o hDC (hw D2 o (by simpa using hDI2) e)
    have hst₂ := S.W.frame _ _ _ hst' fun b hb o e => hs₂.extBut b o (hfp b hb) e
    have hd₂ := hd.keeps kk
    have hc₂ := hc.keeps kk
    obtain ⟨vs, p1, p2⟩ := hd₂.2 x hxg
    refine sub_gen (nm_cell (c := L + 1) (by rfl) hc₂ (nm_loc hn₂ upd_same (row_of hd₂.nodup hxg hd₂.1 ?_)))
    refine iter_list (s := { s' with heap := h₂, toks := tk' + 1 + 1 }) p1.isList fun I₂ h₃ hI₂n hk₃ hit₂ => ?_
    replace hI₂n : h₂.get? I₂ = none := hI₂n
    replace hk₃ : ∀ b o, h₂.get? b = some o → h₃.get? b = some o := hk₃
    have hTI₂ : x.2.1 ≠ I₂ := ne_of_get' (IsList_live p1.isList) hI₂n
    have hCI₂ : C ≠ I₂ := ne_of_get' (Ns_live hn₂) hI₂n
    have hTC : x.2.1 ≠ C := list_ne_ns p1.isList hn₂
    have hD2I₂ : D2 ≠ I₂ := ne_of_get' (IsList_live hl₂.isList) hI₂n
    have S₂ := Src.list (prog := prog) (w := w) (A := A) (I := I₂) hh hTI₂ p2
    have hst₃ := S.W.frame _ _ _ hst₂ fun b _ o e => hk₃ b o e
    have hIl₃ : ∃ o, h₃.get? I = some o := let ⟨⟨o, e, _⟩, _⟩ := hst₃; ⟨o, e⟩
    have hII₂ : I ≠ I₂ := by
      obtain ⟨⟨o, e, _⟩, _⟩ := hst₂
      exact ne_of_get e hI₂n
    have hDC' : D ≠ C := (hdC D (DictOf_live hd.1)).1
    refine loop1 S₂.W (fun j s'' => (∃ tk, s'' = { s with heap := s''.heap, toks := tk }) ∧ (∀ b o, s.heap.get? b = some o → s''.heap.get? b = some o) ∧ (∃ mc, s''.heap.Ns C mc ∧ mc "name" = some (.int x.1 t)) ∧ s''.heap.PlainList D2 ([] : List Value).toArray ∧ Fm [C, I₂] h₃ s''.heap)
      ⟨hit₂, p1.isList.at (hk₃ _)⟩ ⟨⟨_, by rw [e0]⟩, fun b o e => hk₃ b o (kk b o e), ⟨_, hn₂.keeps hk₃, upd_same⟩, hl₂.at (hk₃ _), Fm.refl⟩ (fun _ => rfl) ?_ ?_
    · rintro j v s'' h'' tk'' hj hPj ⟨⟨tk₁, e1⟩, q2, ⟨mc₂, q3, q3n⟩, q4, q5⟩ hst'' hw₂
      obtain ⟨k₂, t₂, rfl, hk₂⟩ := S₂.val j v hPj
      have hk₂m : k₂ ∈ x.2.2 := List.mem_of_getElem? hk₂
      have hedge : (x.1, k₂) ∈ edg g := mem_edg.mpr ⟨x, hxg, rfl, hk₂m⟩
      have hn'' : h''.Ns C mc₂ := q3.at' fun o e => hw₂ C o (by simpa using hCI₂) e
      refine wpAny_assign_Name (wpAny_storeName_local (by rfl) (show h''.Ns C mc₂ from hn'') (fun h₅ hn₅ hs₅ => ?_) (by rfl))
      replace hn₅ : h₅.Ns C (upd mc₂ "one" (.int k₂ t₂)) := hn₅
      replace hs₅ : Heap.SameBut C h'' h₅ := hs₅
      have hsI₂ : ∀ b o, s.heap.get? b = some o → b ≠ I₂ := fun b o e => ne_of_get (kk b o e) hI₂n
      have kk₅ : ∀ b o, s.heap.get? b = some o → h₅.get? b = some o := fun b o e => hs₅.extBut b o (hdC b ⟨o, e⟩).1 (hw₂ b o (by simpa using hsI₂ b o e) (q2 b o e))
      have hct₅ := hct.keeps kk₅
      have hL₅ : h₅.IsList LL vsL.toArray := hL.isList.at (kk₅ LL)
      have hnoD : ∀ b, Value.ref LL = .ref b → ∃ ob, h₅.get? b = some ob ∧ ob.dict = none := fun b e => by
        injection e with e; subst e; obtain ⟨n, e⟩ := hL; exact ⟨_, kk₅ _ _ e, rfl⟩
      have hu : x.1 ∈ Lst := (K.all _).mpr (.inl (List.mem_map_of_mem hxg))
      have hv : k₂ ∈ Lst := (K.all _).mpr (.inr ⟨_, hedge⟩)
      have hnm : upd mc₂ "one" (.int k₂ t₂) "name" = some (.int x.1 t) := by rw [upd_ne (by decide)]; exact q3n
      refine tests_one (wpAny_isTrue_Compare1 ?_)
      refine wpAny_Call_method1_late (by rfl) (by rfl) (by rfl) (nm_cell (c := L + 3) (by rfl) hct₅ ?_)
      refine methodOn_index hL₅ hLi hLl (nm_loc hn₅ hnm ⟨x.1, t, rfl, hu, rfl, ?_⟩) hnoD
      refine wpAny_Call_method1_late (by rfl) (by rfl) (by rfl) (nm_cell (c := L + 3) (by rfl) hct₅ ?_)
      refine methodOn_index hL₅ hLi hLl (nm_loc hn₅ upd_same ⟨k₂, t₂, rfl, hv, rfl, ?_⟩) hnoD
      refine PyProof.Rows.ge_int (wpAny_truthy_bool ?_)
      have hlt := idx_lt K hedge
      have hfalse : decide ((Lst.idxOf k₂ : Int) ≤ (Lst.idxOf x.1 : Int)) = false := by rw [decide_eq_false_iff_not]; omega
      rw [hfalse]
      simp only [Bool.false_eq_true, if_false]
      refine ⟨S₂.W.frame _ _ _ hst'' fun b hb o e => hs₅.extBut b o ?_ e, ⟨_, by rw [e1]⟩, kk₅, ⟨_, hn₅, hnm⟩, q4.at fun o e => hs₅.extBut D2 o hDC (hw₂ D2 o (by simpa using hD2I₂) e), q5.trans (Fm.trans (fun b o hb e => hw₂ b o (by simp at hb ⊢; exact hb.2) e) (Fm.same hs₅ (by simp)))⟩
      simp only [List.mem_cons, List.not_mem_nil, or_false] at hb
      rcases hb with q | q
      · rw [q]; exact Ne.symm hCI₂
      · rw [q]; exact hTC
    · rintro s'' h'' tk'' ⟨⟨tk₁, e1⟩, q2, ⟨mc₂, q3, q3n⟩, q4, q5⟩ hw₂
      have hsI₂ : ∀ b o, s.heap.get? b = some o → b ≠ I₂ := fun b o e => ne_of_get (kk b o e) hI₂n
      refine ⟨S.W.frame _ _ _ hst₃ fun b hb o e => hw₂ b o ?_ (q5 b o ?_ e), ⟨tk'', by rw [e1]⟩, fun b o e => hw₂ b o (by simpa using hsI₂ b o e) (q2 b o e), ⟨_, q3.at' fun o e => hw₂ C o (by simpa using hCI₂) e⟩, q4.at fun o e => hw₂ D2 o (by simpa using hD2I₂) e⟩
      · simp only [List.mem_cons, List.not_mem_nil, or_false] at hb
        rcases hb with q | q
        · rw [q]; simpa using hII₂
        · rw [q]; simpa using ne_of_get' (DictOf_live hd₂.1) hI₂n
      · simp only [List.mem_cons, List.not_mem_nil, or_false] at hb
        rcases hb with q | q
        · rw [q]; simp [Ne.symm hCI, hII₂]
        · rw [q]; simp [hDC', ne_of_get' (DictOf_live hd₂.1) hI₂n]
  · rintro s' h' tk' ⟨⟨tk₀, e0⟩, j2, ⟨mc, j3⟩, j4⟩ hw
    refine post_none (s := { s' with heap := h', toks := tk' }) (j3.at' fun o e => hw C o (by simpa using hCI) e) fun h₂ hs₂ => ?_
    replace hs₂ : Heap.SameBut C h' h₂ := hs₂
    rw [e0]
    exact h h₂ tk' D2 (fun b o e => hs₂.extBut b o (hdC b ⟨o, e⟩).1 (hw b o (by simpa using (hdC b ⟨o, e⟩).2.2) (j2 b o e))) (j4.at fun o e => hs₂.extBut D2 o hDC (hw D2 o (by simpa using hDI2) e))
end
end Mine
end

-- part H4
section
open PySem PySem.W PyProof.Rows PySem.Calls
set_option maxRecDepth 100000
namespace Mine

theorem sorted_unique : ∀ (a b : List Int), a.Pairwise (· < ·) → b.Pairwise (· < ·) → (∀ x, x ∈ a ↔ x ∈ b) → a = b
  | [], [], _, _, _ => rfl
  | [], y :: t, _, _, h => absurd ((h y).mpr (.head _)) (by simp)
  | x :: r, [], _, _, h => absurd ((h x).mp (.head _)) (by simp)
  | x :: r, y :: t, ha, hb, h => by
    rw [List.pairwise_cons] at ha hb
    have hxy : x = y := by
      rcases List.mem_cons.mp ((h x).mp (.head _)) with e | e
      · exact e
      · rcases List.mem_cons.mp ((h y).mpr (.head _)) with e' | e'
        · exact e'.symm
        · have h1 := hb.1 x e
          have h2 := ha.1 y e'
          omega
    subst hxy
    rw [sorted_unique r t ha.2 hb.2 fun z => ?_]
    constructor
    · intro hz
      rcases List.mem_cons.mp ((h z).mp (.tail _ hz)) with e | e
      · have := ha.1 z hz; omega
      · exact e
    · intro hz
      rcases List.mem_cons.mp ((h z).mpr (.tail _ hz)) with e | e
      · have := hb.1 z hz; omega
      · exact e

theorem nodes_sorted (g : Rows3) : (nodesOf g).Pairwise (· < ·) := by
  unfold nodesOf
  exact List.Pairwise.sublist List.filter_sublist (show (nats 7).Pairwise (· < ·) by decide)

theorem told_sorted {sz : Nat} {g : Rows3} (W : WG sz g) {L ns : List Int} (K : KOk g L) (hp : ns.Perm L) (hs : ns.Pairwise (· ≤ ·)) : ns = nodesOf g := by
  refine sorted_unique _ _ ?_ (nodes_sorted g) fun x => ?_
  · have hnd : ns.Nodup := hp.nodup_iff.mpr K.nd
    have := hs.and hnd
    exact this.imp fun ⟨h1, h2⟩ => by omega
  · rw [hp.mem_iff, K.all, mem_nodes W]

theorem lay_nats (p : Int → Bool) : PyData.layable0 (.list (((nats 7).filter p).map .int)) = true := by
  have e : nats 7 = [0, 1, 2, 3, 4, 5, 6] := by decide
  rw [e]
  simp only [List.filter_cons, List.filter_nil]
  cases p 0 <;> cases p 1 <;> cases p 2 <;> cases p 3 <;> cases p 4 <;> cases p 5 <;> cases p 6 <;> decide
theorem lay_told {sz : Nat} {g : Rows3} (W : WG sz g) {L : List Int} (K : KOk g L) : PyData.layable0 (.list (L.map .int)) = true := by
  have hp : L.Perm (nodesOf g) := (List.perm_ext_iff_of_nodup K.nd ((nodes_sorted g).imp fun h => by omega)).mpr fun x => by rw [K.all, mem_nodes W]
  exact layable_ints_perm hp (lay_nats _)

section
variable {prog : Program} {w : World} {A : Around} {E : Value → Shared → Prop} {s : Shared} {env : Env} {R : Result → Shared → Prop}

theorem kr_same {g gb : Rows3} (h : kr gb = kr g) : g.length = gb.length ∧ ∀ x ∈ g, ∃ y ∈ gb, y.1 = x.1 ∧ y.2.2 = x.2.2 := by
  refine ⟨?_, fun x hx => ?_⟩
  · have := congrArg List.length h
    unfold kr at this
    simpa using this.symm
  · exact mem_kr.mp (h ▸ mem_kr.mpr ⟨x, hx, rfl, rfl⟩)

set_option maxHeartbeats 4000000 in
theorem law_end {L a : Addr} {cd : Value} {m mg mb : Str → Option Value} {D B N Al LL : Addr} {g gb : Rows3} {Lst : List Int} {vsL vsN vsA : List Value} {sz : Nat} {Q : Flow → Shared → Prop}
    (hh : A.handled = none) (hu : A.units + 72 < cLine) (hn : s.heap.Ns L m) (hmB : m "before" = some (.ref B)) (hmN : m "nodes" = some (.ref N)) (G : Gl mg mb s.heap) (hms : mg "sorted" = none)
    (hc : s.heap.IsCell (L + 1) (some (.ref D))) (hca : s.heap.IsCell (L + 2) (some (.ref Al))) (hct : s.heap.IsCell (L + 3) (some (.ref LL)))
    (hL : s.heap.PlainList LL (List.toArray vsL)) (hLi : IntsAre vsL Lst) (hN : s.heap.IsList N vsN.toArray) (hNi : IntsAre vsN (nodesOf g)) (hA : s.heap.IsList Al vsA.toArray) (hAi : IntsAre vsA [])
    (hd : LDict prog w s.heap D g) (hDs : sysModules < D) (hb : LDict prog w s.heap B gb) (hBs : sysModules < B) (hkr : kr gb = kr g) (W : WG sz g) (h6 : sz ≤ 6) (K : KOk g Lst)
    (h : ∀ h' tok, (∀ b o, s.heap.get? b = some o → h'.get? b = some o) → Q (.ret (.bool true)) { s with heap := h', toks := tok }) :
    wpAny (model prog w) A (execs (lawBody 10) (envOfC lawD.name lawD.scope L a cd)) Q E s := by
  obtain ⟨hgl, hgr⟩ := kr_same hkr
  have hLlen : Lst.length ≤ sz := by
    have := nodup_length_le Lst (nms sz) K.nd fun x hx => W.sub x ((K.all x).mp hx)
    rwa [nms_len] at this
  refine wpAny_execs_cons (wpAny_If (wpAny_isTrue_BoolOp (wpAny_allTrue_Or_cons (wpAny_isTrue_Compare1 (nm_cell (c := L + 2) (by rfl) hca ?_)))))
  refine wpAny_List (wpAny_items_nil ⟨Nat.zero_le _, ?_⟩)
  refine ke_ne_ints (ns := []) (ms := []) (hA.push _) ⟨_, Heap.get?_push_size _ rfl, rfl, 0, rfl⟩ hAi .nil (by omega) (wpAny_truthy_bool ?_)
  simp only [decide_true, Bool.not_true, Bool.false_eq_true, if_false]
  have k₁ : ∀ b o, s.heap.get? b = some o → (s.heap.push { cls := .type "list", data := .seq ([] : List Value).toArray }).get? b = some o := fun b o e => Heap.get?_push_of_some _ e
  generalize (s.heap.push { cls := .type "list", data := .seq ([] : List Value).toArray }) = h₁ at k₁ ⊢
  refine wpAny_allTrue_Or_cons (wpAny_isTrue_Compare1 (nm_cell (c := L + 1) (by rfl) (hc.keeps k₁) (nm_loc (hn.keeps k₁) hmB ?_)))
  refine ne_ldicts hDs hBs (hd.keeps k₁) (hb.keeps k₁) hgl hgr hu (wpAny_truthy_bool ?_)
  simp only [Bool.false_eq_true, if_false]
  refine wpAny_allTrue_Or_cons (wpAny_isTrue_Compare1 (Call_ (nm_built (G.keeps k₁) hms (by rfl) ?_)))
  refine PyProof.Rows.callWith_builtin1 (PyProof.Rows.args_cons (nm_cell (c := L + 3) (by rfl) (hct.keeps k₁) (PyProof.Rows.args_nil ?_)))
  refine sorted_ints (hL.isList.at (k₁ LL)) hLi (by rw [hLi.length]; omega) fun out ns' ho hp hs => ?_
  have k₂ : ∀ b o, s.heap.get? b = some o → (sortedAll h₁ vsL out).get? b = some o := fun b o e => sortedAll_old (k₁ b o e)
  obtain ⟨ep, hat⟩ := sortedAll_at h₁ vsL out
  dsimp only
  generalize sortedAll h₁ vsL out = h₂ at k₂ hat ⊢
  refine nm_loc (hn.keeps k₂) hmN ?_
  refine ke_ne_ints (xs := out.toList) (ns := ns') (ms := nodesOf g) ⟨_, hat, rfl, ep, by simp [seqObj]⟩ (hN.at (k₂ N)) ho hNi (by omega) (wpAny_truthy_bool ?_)
  rw [told_sorted W K hp hs]
  simp only [decide_true, Bool.not_true, Bool.false_eq_true, if_false]
  refine wpAny_allTrue_Or_nil ?_
  simp only [Bool.false_eq_true, if_false]
  refine wpAny_execs_nil ?_
  refine wpAny_execs_cons (wpAny_Return_some (wpAny_Compare1 ?_))
  refine told_comp hh (hc.keeps k₂) (hct.keeps k₂) (hL.at (k₂ LL)) hLi (lay_told W K) (hd.keeps k₂) hDs K fun h₃ tok D2 k₃ hp₃ => ?_
  refine wpAny_List (wpAny_items_nil ⟨Nat.zero_le _, ?_⟩)
  refine ke_eq_ints (xs := []) (ys := []) (ns := []) (ms := []) (hp₃.isList.push _) ⟨_, Heap.get?_push_size _ rfl, rfl, 0, rfl⟩ .nil .nil (by omega) ?_
  exact h _ _ fun b o e => Heap.get?_push_of_some _ (k₃ b o (k₂ b o e))
end
end Mine
end

-- part H5
section
open PySem PySem.W PyProof.Rows PySem.Calls
set_option maxRecDepth 100000
namespace Mine
section
variable {prog : Program} {w : World} {A : Around} {E : Value → Shared → Prop} {s : Shared} {env : Env} {R : Result → Shared → Prop}

def tryS : Stmt := (lawD.body[9]?).getD (.Pass ⟨0, 0, 0, 0⟩)

set_option maxHeartbeats 8000000 in
theorem law_try {L a : Addr} {cd : Value} {m mg mb : Str → Option Value} {D B Al ta c P : Addr} {to : Obj} {tpm tdoc : Value} {g gb : Rows3} {vsA : List Value} {v₀ : Option Value} {sz : Nat} {Q : Flow → Shared → Prop}
    (hh : A.handled = none) (hu : A.units + 72 < cLine) (hroom : A.depth + 1 < recursionLimit) (hfr : A.frames = some [envOfC lawD.name lawD.scope L a cd])
    (hn : s.heap.Ns L m) (hGL : ∀ b, b = mainGlobals ∨ b = builtinsNs ∨ b = cStatics → b ≠ L) (hmB : m "before" = some (.ref B)) (G : Gl mg mb s.heap) (BMs : BM s.heap mg)
    (hc : s.heap.IsCell (L + 1) (some (.ref D))) (hca : s.heap.IsCell (L + 2) (some (.ref Al))) (hct : s.heap.IsCell (L + 3) v₀) (hA : s.heap.IsList Al vsA.toArray) (hAi : IntsAre vsA (aliveN g sz))
    (hd : LDict prog w s.heap D g) (hDs : sysModules < D) (hDL : D ≠ L) (hb : LDict prog w s.heap B gb) (hBs : sysModules < B) (hBL : B ≠ L) (hkr : kr gb = kr g) (W : WG sz g) (h6 : sz ≤ 6)
    (htopo : mg "_toposort" = some (.ref ta)) (hto : s.heap.get? ta = some to) (htd : to.data = .func (docDef topoD.name topoD.params topoD.body topoD.scope tpm (.ref c) tdoc)) (hcd : s.heap.CodeRec (.ref c) topoD.name)
    (hrev : ∃ a o pm cd doc, mg "reverse_dict" = some (.ref a) ∧ s.heap.get? a = some o ∧ o.data = .func (docDef revD.name revD.params revD.body revD.scope pm cd doc) ∧ s.heap.CodeRec cd revD.name)
    (hmt : mg "tuple" = none) (hms : mg "set" = none) (hmd : mg "dict" = none) (hma : mg "any" = none) (hmv : mg "ValueError" = none)
    (hok : s.heap.IsCode c P #[]) (htab : s.heap.TableAt c P #[]) (hbare : AllBare s.gens)
    (h1 : ∀ h' tok dr gens' LL vs Lst ps', Fm [P, L + 3] s.heap h' → h'.TableAt c P ps' → AllBare gens' → h'.IsCell (L + 3) (some (.ref LL)) → h'.PlainList LL (List.toArray vs) → IntsAre vs Lst → KOk g Lst →
      Q .next { s with heap := h', toks := tok, drawn := dr, gens := gens' })
    (h2 : ∀ h' tok dr gens' ps', (∀ b o, b ≠ P → b ≠ L → s.heap.get? b = some o → h'.get? b = some o) → h'.TableAt c P ps' → AllBare gens' → Q (.ret (.bool true)) { s with heap := h', toks := tok, drawn := dr, gens := gens' }) :
    wpAny (model prog w) A (exec tryS (envOfC lawD.name lawD.scope L a cd)) Q E s := by
  obtain ⟨hgl, hgr⟩ := kr_same hkr
  refine wpAny_Try_except ?_
  refine wpAny_execs_cons (wpAny_Assign_Name (Call_ (nm_glob G htopo ?_)))
  refine PyProof.Rows.callWith_def (h := ?_) htd
  refine PyProof.Rows.args_cons (nm_cell (c := L + 1) (by rfl) hc (PyProof.Rows.args_nil ⟨hto, ?_⟩))
  refine wpAny_call (topo_spec (g := g) (lenv := envOfC lawD.name lawD.scope L a cd) (L₀ := L) hh hroom hfr (by rfl) (show lawD.scope.kind ≠ .module by decide) hn hto htd hcd G BMs hrev hmt hms hmd hma hmv hok htab hbare hd hDs W.rows (by have := W.len; omega) (by have := W.edges h6; omega) ?_ ?_)
  · -- it came back
    intro h' tok dr gens' LL vs Lst ps' f ht hb' hLLn hLL hvs K
    have hP3 : L + 3 ≠ P := cell_off htab hct
    refine st_cell (c := L + 3) (by rfl) (cell_keep hct fun o e => f _ o (by simpa using hP3) e) (fun h₂ hc₂ hs₂ => ?_)
    replace hs₂ : Heap.SameBut (L + 3) h' h₂ := hs₂
    refine wpAny_execs_nil ?_
    dsimp only
    refine wpAny_execs_nil ?_
    have hLL3 : LL ≠ L + 3 := Ne.symm (ne_of_get' (cell_live hct) hLLn)
    have hc3 : c ≠ L + 3 := fun q => by
      obtain ⟨o, vs, file, tf, flags, tg, inF, text, tt, op, ho, hd, _⟩ := hok
      obtain ⟨o', ho', hd'⟩ := hct
      rw [q, ho'] at ho; cases ho; rw [hd'] at hd; cases hd
    exact h1 h₂ _ _ _ LL vs Lst ps' ((f.mono fun b hb => by simp at hb ⊢; exact .inl hb).trans (Fm.same hs₂ (by simp))) (tabAt_at ht (fun o e => hs₂.extBut c o hc3 e) (fun o e => hs₂.extBut P o (Ne.symm hP3) e)) hb' hc₂
      (hLL.at fun o e => hs₂.extBut LL o hLL3 e) hvs K
  · -- it raised
    intro h' hb₀ e t tok dr gens' ps' f ht hb' hbad hfl hsm
    dsimp only at hfl ⊢
    have hLtn : s.heap.get? s.heap.objs.size = none := get_size _
    generalize s.heap.objs.size = Lt at hfl hLtn
    have hLP : L ≠ P := ns_off htab hn
    have keepB : ∀ b o, b ≠ P → b ≠ L → s.heap.get? b = some o → (hideAll hb₀ [Lt, L]).get? b = some o := fun b o h1 h2 e =>
      hideAll_get _ (f b o (by simpa using h1) e) (by simp only [List.mem_cons, List.not_mem_nil, or_false, not_or]; exact ⟨ne_of_get e hLtn, h2⟩)
    have hPl : P < s.heap.objs.size := Heap.lt_size htab.2
    refine wpAny_looks_onW (s := { s with heap := h', toks := tok, drawn := dr, gens := gens' }) hfr (by rfl) hfl fun h₄ hheld₄ hsm₄ => ?_
    refine wpAny_landsW (s := { s with heap := h₄, toks := tok, drawn := dr, gens := gens' }) hheld₄ fun h₅ hfl₅ hsm₅ => ?_
    obtain ⟨ob, hob, hobc⟩ := hfl₅.there
    have keep5 : ∀ b o, b ≠ P → b ≠ L → s.heap.get? b = some o → h₅.get? b = some o := fun b o x1 x2 e => hfl₅.1 b o (keepB b o x1 x2 e)
    have keepT : ∀ h₇ : Heap, (hideAll hb₀ [Lt, L]).StaysIn h₇ → h₇.TableAt c P ps' := fun h₇ hs => by
      obtain ⟨o1, e1⟩ := isCode_live hok
      have hcL : c ≠ L := fun q => by
        obtain ⟨o, vs, file, tf, flags, tg, inF, text, tt, op, ho, hdd, _⟩ := hok
        obtain ⟨o', es, ep, ho', hd', _⟩ := hn
        rw [q, ho'] at ho; cases ho; rw [hd'] at hdd; cases hdd
      exact tabAt_at ht (fun o e => hs _ _ (hideAll_get _ e (by simp only [List.mem_cons, List.not_mem_nil, or_false, not_or]; exact ⟨ne_of_get e1 hLtn, hcL⟩)))
        (fun o e => hs _ _ (hideAll_get _ e (by simp only [List.mem_cons, List.not_mem_nil, or_false, not_or]; exact ⟨ne_of_get htab.2 hLtn, Ne.symm hLP⟩)))
    have G₅ : Gl mg mb h₅ := by
      obtain ⟨mc, hmc, hmc2⟩ := G.nl
      exact ⟨G.g.at' fun o e => keep5 _ o (ns_off htab G.g) (hGL _ (.inl rfl)) e, G.b.at' fun o e => keep5 _ o (ns_off htab G.b) (hGL _ (.inr (.inl rfl))) e,
        ⟨mc, hmc.at' fun o e => keep5 _ o (ns_off htab hmc) (hGL _ (.inr (.inr rfl))) e, hmc2⟩, G.bt⟩
    refine wpAny_handleBy_builtin (X := "ValueError") (T := "ValueError") (b := true) PySem.F.isExc_ValueError PySem.F.notTuple_ValueError (by rw [isSubtype_type]; kernel_rfl) (nm_built (s := { s with heap := h₅, toks := tok, drawn := dr, gens := gens' }) G₅ hmv (by rfl) ⟨rfl, ⟨ob, hob, hobc⟩, ?_⟩)
    rw [if_pos rfl]
    refine lands_againW (s := { s with heap := h₅, toks := tok, drawn := dr, gens := gens' }) hfl₅ fun h₆ hfl₆ hsm₆ => ?_
    dsimp only
    have k₆ : ∀ b o, b ≠ P → b ≠ L → s.heap.get? b = some o → h₆.get? b = some o := fun b o x1 x2 e => hfl₆.1 b o (keepB b o x1 x2 e)
    have t₆ := keepT h₆ hfl₆.1
    have ldK : ∀ {x : Addr} {gx : Rows3}, x ≠ L → LDict prog w s.heap x gx → LDict prog w h₆ x gx := fun {x gx} hx hl => by
      refine ⟨DictOf_at hl.1 fun o e => k₆ x o (dict_off htab hl.1) hx e, fun y hy => ?_⟩
      obtain ⟨vs, p1, p2⟩ := hl.2 y hy
      exact ⟨vs, p1.at (fun o e => k₆ _ o (list_off htab p1.isList) (list_ne_ns p1.isList hn) e), p2⟩
    have cK : ∀ {x : Addr} {v : Option Value}, s.heap.IsCell x v → h₆.IsCell x v := fun {x v} hx => cell_keep hx fun o e => k₆ x o (cell_off htab hx) (cell_ne_ns hx hn) e
    have hn₆ : h₆.Ns L m := ((hsm.trans hsm₄).trans (hsm₅.trans hsm₆)).ns (hn.at' fun o e => f L o (by simpa using hLP) e)
    refine wpAny_execs_cons (wpAny_Return_some (BoolOp_and (wpAny_Compare1 (nm_cell (c := L + 2) (by rfl) (cK hca) ?_))))
    refine wpAny_List (wpAny_items_nil ⟨Nat.zero_le _, ?_⟩)
    dsimp only
    have hu' : (A.mark (some (.ref e))).units + 72 < cLine := hu
    refine ke_ne_ints (ns := aliveN g sz) (ms := []) ((hA.at fun o e => k₆ _ o (list_off htab hA) (list_ne_ns hA hn) e).push _) ⟨_, Heap.get?_push_size _ rfl, rfl, 0, rfl⟩ hAi .nil (by omega) (wpAny_truthy_bool ?_)
    rw [decide_eq_false (alive_bad W hbad sz)]
    simp only [Bool.not_false, if_true]
    have k₇ : ∀ b o, h₆.get? b = some o → (h₆.push { cls := .type "list", data := .seq ([] : List Value).toArray }).get? b = some o := fun b o e => Heap.get?_push_of_some _ e
    generalize (h₆.push { cls := .type "list", data := .seq ([] : List Value).toArray }) = h₇ at k₇ ⊢
    refine BoolOp_one (wpAny_Compare1 (nm_cell (c := L + 1) (by rfl) ((cK hc).keeps k₇) (nm_loc (hn₆.keeps k₇) hmB ?_)))
    refine eq_ldicts hDs hBs ((ldK hDL hd).keeps k₇) ((ldK hBL hb).keeps k₇) hgl hgr hu' ?_
    exact h2 h₇ _ _ _ ps' (fun b o x1 x2 e => k₇ b o (k₆ b o x1 x2 e)) (t₆.keeps k₇) hb'
end
end Mine
end

-- part H6
section
open PySem PySem.W PyProof.Rows PySem.Calls
set_option maxRecDepth 100000
namespace Mine
section
variable {prog : Program} {w : World} {A : Around} {E : Value → Shared → Prop} {s : Shared} {env : Env}

theorem mem_bound {W : List Addr} {h h' : Heap} {hs : Heap} (K : ∀ b o, hs.get? b = some o → h.get? b = some o) (f : Fm W h h') (hW : ∀ b ∈ W, hs.get? b = none) : ∀ b o, hs.get? b = some o → h'.get? b = some o :=
  fun b o e => f b o (fun q => by rw [hW b q] at e; cases e) (K b o e)

set_option maxHeartbeats 8000000 in
theorem law_spec {R : Result → Shared → Prop} {a r ga ta c P : Addr} {o go to : Obj} {pm cd doc gpm gcd gdoc tpm tdoc : Value} {rs : List Value} {ns : List Int} {mg mb : Str → Option Value}
    (hfr : A.frames = some []) (hh : A.handled = none) (hroom : A.depth + 3 < recursionLimit) (hu : A.units + 100 < cLine)
    (ho : s.heap.get? a = some o) (hdata : o.data = .func (docDef lawD.name lawD.params lawD.body lawD.scope pm cd doc)) (hcdl : s.heap.CodeRec cd lawD.name)
    (G : Gl mg mb s.heap) (BMs : BM s.heap mg) (hbig : sysModules < s.heap.objs.size)
    (hgr : mg "_law_graph" = some (.ref ga)) (hgo : s.heap.get? ga = some go) (hgd : go.data = .func (docDef graphD.name graphD.params graphD.body graphD.scope gpm gcd gdoc)) (hgc : s.heap.CodeRec gcd graphD.name)
    (htopo : mg "_toposort" = some (.ref ta)) (hto : s.heap.get? ta = some to) (htd : to.data = .func (docDef topoD.name topoD.params topoD.body topoD.scope tpm (.ref c) tdoc)) (hcd : s.heap.CodeRec (.ref c) topoD.name)
    (hrev : ∃ a o pm cd doc, mg "reverse_dict" = some (.ref a) ∧ s.heap.get? a = some o ∧ o.data = .func (docDef revD.name revD.params revD.body revD.scope pm cd doc) ∧ s.heap.CodeRec cd revD.name)
    (hmt : mg "tuple" = none) (hms : mg "set" = none) (hmd : mg "dict" = none) (hma : mg "any" = none) (hmv : mg "ValueError" = none) (hmr : mg "range" = none) (hml : mg "len" = none) (hmso : mg "sorted" = none)
    (hok : s.heap.IsCode c P #[]) (htab : s.heap.TableAt c P #[]) (hbare : AllBare s.gens) (hr : s.heap.IsList r rs.toArray) (hri : IntsAre rs ns) (hlen : ns.length ≤ 63)
    (hR : ∀ h' tok dr gens' ps', Fm [P] s.heap h' → h'.TableAt c P ps' → AllBare gens' → R (.ok (.ret (.bool true))) { s with heap := h', toks := tok, drawn := dr, gens := gens' }) :
    codeAny (model prog w) A (.call (.ref a) ⟨[.ref r], []⟩) R s := by
  refine call_cells_ret (binds := [("script", .ref r)]) (by omega) ho hdata G.nl hcdl (by rfl) (by intro x hx; simp at hx; subst hx; exact .inl rfl) (fun h₁ tk₁ F X => ?_)
  have k₁ := F.keep
  have hn := F.ns
  have hc1 := X.cell "after" (s.heap.objs.size + 1) (by rfl)
  have hc2 := X.cell "alive" (s.heap.objs.size + 2) (by rfl)
  have hc3 := X.cell "told" (s.heap.objs.size + 3) (by rfl)
  have f0 : s.heap.get? s.heap.objs.size = none := get_size s.heap
  have f1 : s.heap.get? (s.heap.objs.size + 1) = none := Heap.get?_none_of_le (by omega)
  have f2 : s.heap.get? (s.heap.objs.size + 2) = none := Heap.get?_none_of_le (by omega)
  have f3 : s.heap.get? (s.heap.objs.size + 3) = none := Heap.get?_none_of_le (by omega)
  generalize hL : s.heap.objs.size = L at hn hc1 hc2 hc3 f0 f1 f2 f3 hbig ⊢
  generalize hm : bindL (envOfC lawD.name lawD.scope L a cd).kindOf [(("script" : Str), Value.ref r)] (fun _ => none) = m at hn
  generalize bindC (envOfC lawD.name lawD.scope L a cd).kindOf [(("script" : Str), Value.ref r)] (fun _ => none) "after" = v1 at hc1
  generalize bindC (envOfC lawD.name lawD.scope L a cd).kindOf [(("script" : Str), Value.ref r)] (fun _ => none) "alive" = v2 at hc2
  generalize bindC (envOfC lawD.name lawD.scope L a cd).kindOf [(("script" : Str), Value.ref r)] (fun _ => none) "told" = v3 at hc3
  have hmr' : m "script" = some (.ref r) := by rw [← hm]; rfl
  have hh1 : (A.deeper (envOfC lawD.name lawD.scope L a cd)).handled = none := hh
  have hroom1 : (A.deeper (envOfC lawD.name lawD.scope L a cd)).depth + 1 < recursionLimit := by show A.depth + 1 + 1 < _; omega
  have hu1 : (A.deeper (envOfC lawD.name lawD.scope L a cd)).units + 72 < cLine := by show A.units + 3 + 72 < _; omega
  have hfr1 : (A.deeper (envOfC lawD.name lawD.scope L a cd)).frames = some [envOfC lawD.name lawD.scope L a cd] := Around.frames_deeper hfr
  generalize A.deeper (envOfC lawD.name lawD.scope L a cd) = A₁ at hh1 hroom1 hu1 hfr1 ⊢
  have hGL : ∀ b, b = mainGlobals ∨ b = builtinsNs ∨ b = cStatics → b ≠ L := fun b hb => by
    rcases hb with q | q | q
    · rw [q]; exact ne_of_get' (Ns_live G.g) f0
    · rw [q]; exact ne_of_get' (Ns_live G.b) f0
    · rw [q]; obtain ⟨mc, hmc, _⟩ := G.nl; exact ne_of_get' (Ns_live hmc) f0
  have n1 : L + 1 ≠ L := Nat.succ_ne_self L
  have n2 : L + 2 ≠ L := by omega
  have n3 : L + 3 ≠ L := by omega
  have n21 : L + 2 ≠ L + 1 := by omega
  have n31 : L + 3 ≠ L + 1 := by omega
  have n13 : L + 1 ≠ L + 3 := by omega
  have n23 : L + 2 ≠ L + 3 := by omega
  have hrL : r ≠ L := ne_of_get' (IsList_live hr) f0
  -- pick, size, rows
  refine law_head (s := { s with heap := h₁, toks := tk₁ }) hn hmr' (hr.at fun o e => k₁ r o e) hri hlen hrL (G.keeps k₁) hml hGL fun h₂ tk₂ m₂ pk tp sz ts l ls ms fh hn₂ hmp hms2 hsz2 hsz6 hmrow hl hli hlL => ?_
  replace fh : Fm [L] h₁ h₂ := fh
  dsimp only
  have K₂ := mem_bound k₁ fh (fun b hb => by rw [List.mem_singleton.mp hb]; exact f0)
  have hc1₂ : h₂.IsCell (L + 1) v1 := cell_keep hc1 fun o e => fh _ o (by simpa using n1) e
  have hc2₂ : h₂.IsCell (L + 2) v2 := cell_keep hc2 fun o e => fh _ o (by simpa using n2) e
  have hc3₂ : h₂.IsCell (L + 3) v3 := cell_keep hc3 fun o e => fh _ o (by simpa using n3) e
  -- after
  refine wpAny_execs_cons (wpAny_Assign_Name (Call_ (nm_glob (s := { s with heap := h₂, toks := tk₂ }) (G.keeps K₂) hgr ?_)))
  refine PyProof.Rows.callWith_def (h := ?_) hgd
  refine PyProof.Rows.args_cons (nm_loc hn₂ hms2 (PyProof.Rows.args_cons (nm_loc hn₂ hmrow (PyProof.Rows.args_nil ⟨K₂ _ _ hgo, ?_⟩))))
  refine wpAny_call (graph_spec (s := { s with heap := h₂, toks := tk₂ }) hh1 (by omega) hsz2 hsz6 (K₂ _ _ hgo) hgd (G.keeps K₂) (hgc.keeps K₂) hmr hl hli fun h₃ tk₃ D g k₃ hDn hLD hD GGg hap hoff => ?_)
  replace k₃ : ∀ b o, h₂.get? b = some o → h₃.get? b = some o := k₃
  replace hLD : h₂.objs.size < D := hLD
  replace hDn : h₂.get? D = none := hDn
  have hLD' : L < D := by
    obtain ⟨o, e⟩ := Ns_live hn₂
    exact Nat.lt_trans (Heap.lt_size e) hLD
  have hDc1 : D ≠ L + 1 := Ne.symm (ne_of_get' (cell_live hc1₂) hDn)
  refine st_cell (c := L + 1) (by rfl) (hc1₂.keeps k₃) (fun h₄ hc1₄ hs₄ => ?_)
  replace hs₄ : Heap.SameBut (L + 1) h₃ h₄ := hs₄
  dsimp only
  have K₄ : ∀ b o, s.heap.get? b = some o → h₄.get? b = some o := fun b o e => hs₄.extBut b o (ne_of_get e f1) (k₃ b o (K₂ b o e))
  have hn₄ : h₄.Ns L m₂ := (hn₂.keeps k₃).sameBut hs₄ (Ne.symm n1)
  have hc2₄ : h₄.IsCell (L + 2) v2 := (hc2₂.keeps k₃).sameBut hs₄ n21
  have hc3₄ : h₄.IsCell (L + 3) v3 := (hc3₂.keeps k₃).sameBut hs₄ n31
  have hD₄ : LDict prog w h₄ D g := hD.fm (Fm.same hs₄ (List.mem_singleton.mpr rfl)) (by simpa using hDc1) fun y hy => by
    obtain ⟨vs, p1, _⟩ := hD.2 y hy
    simpa using list_ne_cell p1.isList (hc1₂.keeps k₃)
  have W₀ : WG sz g := WG.of_GG hsz6 GGg
  -- odd picks drop the empty rows
  refine law_cut (s := { s with heap := h₄, toks := tk₃ }) hh1 hu1 hn₄ hmp hc1₄ hD₄ hLD' hbig (by have := W₀.len; omega) fun h₅ tk₅ D' g' f₅ hn₅ hc1₅ hD₅ hLD₅ hkr => ?_
  replace f₅ : Fm [L + 1] h₄ h₅ := f₅
  dsimp only
  have K₅ := mem_bound K₄ f₅ (fun b hb => by rw [List.mem_singleton.mp hb]; exact f1)
  have hc2₅ : h₅.IsCell (L + 2) v2 := cell_keep hc2₄ fun o e => f₅ _ o (by simp) e
  have hc3₅ : h₅.IsCell (L + 3) v3 := cell_keep hc3₄ fun o e => f₅ _ o (by simp) e
  have W' : WG sz g' := by
    rcases hkr with q | q
    · exact W₀.kr q
    · exact (W₀.filter _).kr q
  have hgl' : g'.length < 900 := by have := W'.len; omega
  have hrl' : ∀ x ∈ g', x.2.2.length < 900 := fun x hx => by have := W'.rowlen hx; omega
  -- before
  refine law_before (s := { s with heap := h₅, toks := tk₅ }) hh1 hn₅ hc1₅ hD₅ hLD₅ hbig hgl' hrl' fun h₆ tk₆ B gb f₆ hn₆ hB₆ hLB hkrb => ?_
  replace f₆ : Fm [L] h₅ h₆ := f₆
  dsimp only
  have K₆ := mem_bound K₅ f₆ (fun b hb => by rw [List.mem_singleton.mp hb]; exact f0)
  have hc1₆ : h₆.IsCell (L + 1) (some (.ref D')) := cell_keep hc1₅ fun o e => f₆ _ o (by simp) e
  have hc2₆ : h₆.IsCell (L + 2) v2 := cell_keep hc2₅ fun o e => f₆ _ o (by simp) e
  have hc3₆ : h₆.IsCell (L + 3) v3 := cell_keep hc3₅ fun o e => f₆ _ o (by simp) e
  have hD'L : D' ≠ L := Nat.ne_of_gt hLD₅
  have hBL : B ≠ L := Nat.ne_of_gt hLB
  have hD₆ : LDict prog w h₆ D' g' := hD₅.fm f₆ (by simpa using hD'L) fun y hy => by
    obtain ⟨vs, p1, _⟩ := hD₅.2 y hy
    simpa using list_ne_ns p1.isList hn₅
  have hDs' : sysModules < D' := Nat.lt_trans hbig hLD₅
  have hBs' : sysModules < B := Nat.lt_trans hbig hLB
  -- nodes
  refine law_nodes (s := { s with heap := h₆, toks := tk₆ }) hh1 hu1 hn₆ hc1₆ hD₆ hDs' hgl' (G.keeps K₆) hmr fun h₇ tk₇ N vsN f₇ hn₇ hN₇ hNi hNn => ?_
  replace f₇ : Fm [L] h₆ h₇ := f₇
  dsimp only
  have K₇ := mem_bound K₆ f₇ (fun b hb => by rw [List.mem_singleton.mp hb]; exact f0)
  have hc1₇ : h₇.IsCell (L + 1) (some (.ref D')) := cell_keep hc1₆ fun o e => f₇ _ o (by simp) e
  have hc2₇ : h₇.IsCell (L + 2) v2 := cell_keep hc2₆ fun o e => f₇ _ o (by simp) e
  have hc3₇ : h₇.IsCell (L + 3) v3 := cell_keep hc3₆ fun o e => f₇ _ o (by simp) e
  have hD₇ : LDict prog w h₇ D' g' := hD₆.fm f₇ (by simpa using hD'L) fun y hy => by
    obtain ⟨vs, p1, _⟩ := hD₆.2 y hy
    simpa using list_ne_ns p1.isList hn₆
  have hB₇ : LDict prog w h₇ B gb := hB₆.fm f₇ (by simpa using hBL) fun y hy => by
    obtain ⟨vs, p1, _⟩ := hB₆.2 y hy
    simpa using list_ne_ns p1.isList hn₆
  have hms₇ : upd (upd m₂ "before" (.ref B)) "nodes" (.ref N) "size" = some (.int sz ts) := by rw [upd_ne (by decide), upd_ne (by decide)]; exact hms2
  -- alive
  refine law_alive (s := { s with heap := h₇, toks := tk₇ }) hh1 hu1 hn₇ hms₇ (by omega) upd_same hN₇ hNi hc1₇ hc2₇ hD₇ hDs' hLD₅ hgl' hrl' (G.keeps K₇) hmr fun h₈ tk₈ m₈ Al vsA f₈ hn₈ hm₈ hc2₈ hA₈ hAi => ?_
  replace f₈ : Fm [L, L + 2] h₇ h₈ := f₈
  dsimp only
  have K₈ := mem_bound K₇ f₈ (fun b hb => by
    simp only [List.mem_cons, List.not_mem_nil, or_false] at hb
    rcases hb with q | q
    · rw [q]; exact f0
    · rw [q]; exact f2)
  have hc1₈ : h₈.IsCell (L + 1) (some (.ref D')) := cell_keep hc1₇ fun o e => f₈ _ o (by simp) e
  have hc3₈ : h₈.IsCell (L + 3) v3 := cell_keep hc3₇ fun o e => f₈ _ o (by simp) e
  have ldK : ∀ {x : Addr} {gx : Rows3}, x ≠ L → LDict prog w h₇ x gx → LDict prog w h₈ x gx := fun {x gx} hx hl => hl.fm f₈ (by simp only [List.mem_cons, List.not_mem_nil, or_false, not_or]; exact ⟨hx, dict_ne_cell hl.1 hc2₇⟩) fun y hy => by
    obtain ⟨vs, p1, _⟩ := hl.2 y hy
    simp only [List.mem_cons, List.not_mem_nil, or_false, not_or]
    exact ⟨list_ne_ns p1.isList hn₇, list_ne_cell p1.isList hc2₇⟩
  have hD₈ := ldK hD'L hD₇
  have hB₈ := ldK hBL hB₇
  have hN₈ : h₈.IsList N vsN.toArray := hN₇.isList.at fun o e => f₈ N o (by simp only [List.mem_cons, List.not_mem_nil, or_false, not_or]; exact ⟨list_ne_ns hN₇.isList hn₇, list_ne_cell hN₇.isList hc2₇⟩) e
  have hmB₈ : m₈ "before" = some (.ref B) := by rw [hm₈ _ (by decide), upd_ne (by decide)]; exact upd_same
  have hmN₈ : m₈ "nodes" = some (.ref N) := by rw [hm₈ _ (by decide)]; exact upd_same
  have htab₈ := htab.keeps K₈
  obtain ⟨rva, rvo, rvpm, rvcd, rvdoc, e1, e2, e3, e4⟩ := hrev
  -- try
  refine wpAny_execs_cons (law_try (s := { s with heap := h₈, toks := tk₈ }) hh1 hu1 hroom1 hfr1 hn₈ hGL hmB₈ (G.keeps K₈) (BMs.keeps K₈) hc1₈ hc2₈ hc3₈ hA₈.isList hAi hD₈ hDs' hD'L hB₈ hBs' hBL hkrb W' hsz6
    htopo (K₈ _ _ hto) htd (hcd.keeps K₈) ⟨rva, rvo, rvpm, rvcd, rvdoc, e1, K₈ _ _ e2, e3, e4.keeps K₈⟩ hmt hms hmd hma hmv (hok.keeps K₈) htab₈ hbare ?_ ?_)
  · intro h₉ tk₉ dr gens' LL vs Lst ps' f₉ ht₉ hb₉ hc3₉ hLL hvs K
    replace f₉ : Fm [P, L + 3] h₈ h₉ := f₉
    dsimp only
    have hnP : ∀ b, b ≠ P → b ≠ L + 3 → b ∉ [P, L + 3] := fun b x1 x2 => by simp only [List.mem_cons, List.not_mem_nil, or_false, not_or]; exact ⟨x1, x2⟩
    have hn₉ : h₉.Ns L m₈ := hn₈.at' fun o e => f₉ L o (hnP L (ns_off htab₈ hn₈) (Ne.symm n3)) e
    have hc1₉ : h₉.IsCell (L + 1) (some (.ref D')) := cell_keep hc1₈ fun o e => f₉ _ o (hnP _ (cell_off htab₈ hc1₈) n13) e
    have hc2₉ : h₉.IsCell (L + 2) (some (.ref Al)) := cell_keep hc2₈ fun o e => f₉ _ o (hnP _ (cell_off htab₈ hc2₈) n23) e
    have ld9 : ∀ {x : Addr} {gx : Rows3}, LDict prog w h₈ x gx → LDict prog w h₉ x gx := fun {x gx} hl => hl.fm f₉ (hnP _ (dict_off htab₈ hl.1) (dict_ne_cell hl.1 hc3₈)) fun y hy => by
      obtain ⟨vs, p1, _⟩ := hl.2 y hy
      exact hnP _ (list_off htab₈ p1.isList) (list_ne_cell p1.isList hc3₈)
    have li9 : ∀ {x : Addr} {vx : Array Value}, h₈.IsList x vx → h₉.IsList x vx := fun {x vx} hl => hl.at fun o e => f₉ _ o (hnP _ (list_off htab₈ hl) (list_ne_cell hl hc3₈)) e
    have F₉ : Fm [P] s.heap h₉ := fun b o hb e => f₉ b o (hnP b (by simpa using hb) (ne_of_get e f3)) (K₈ b o e)
    have hAe : aliveN g' sz = [] := alive_good W' K
    rw [hAe] at hAi
    refine law_end (s := { s with heap := h₉, toks := tk₉, drawn := dr, gens := gens' }) hh1 hu1 hn₉ hmB₈ hmN₈ (G.off htab F₉) hmso hc1₉ hc2₉ hc3₉ hLL hvs (li9 hN₈) hNi (li9 hA₈.isList) hAi (ld9 hD₈) hDs' (ld9 hB₈) hBs' hkrb W' hsz6 K fun h' tok k' => ?_
    exact hR h' tok dr gens' ps' (fun b o hb e => k' b o (F₉ b o hb e)) (ht₉.keeps k') hb₉
  · intro h₉ tk₉ dr gens' ps' f₉ ht₉ hb₉
    exact hR h₉ tk₉ dr gens' ps' (fun b o hb e => f₉ b o (by simpa using hb) (ne_of_get e f0) (K₈ b o e)) ht₉ hb₉
end
end Mine
end

-- part H7
section
open PySem PySem.W PyProof.Rows PySem.Calls
set_option maxRecDepth 100000
namespace Mine
section
variable {prog : Program} {w : World} {s : Shared}

theorem law_of_top {loose : List Str} {mean : ExcName → Option Value} {mg mb : Str → Option Value} {fa r : Addr} {rs : List Value} {ns : List Int} {R : Result → Shared → Prop}
    (T : Top hd.view_39 loose mean mg mb s.heap) (hlo : loose = looseW hd.view_39 []) (hmg : mg ("law" : Str) = some (.ref fa)) (hg : s.gens = #[])
    (hr : s.heap.IsList r rs.toArray) (hri : IntsAre rs ns) (hlen : ns.length ≤ 63)
    (hR : ∀ h' tok dr gens', OldK s.heap h' → AllBare gens' → R (.ok (.ret (.bool true))) { s with heap := h', toks := tok, drawn := dr, gens := gens' }) :
    codeAny (model prog w) callerA (.call (.ref fa) ⟨[.ref r], []⟩) R s := by
  subst hlo
  have mT : topoD ∈ recsOf hd.view_39 := List.mem_of_find?_eq_some topo_rec
  have mR : revD ∈ recsOf hd.view_39 := List.mem_of_find?_eq_some rev_rec
  have mG : graphD ∈ recsOf hd.view_39 := List.mem_of_find?_eq_some graph_rec
  have mL : lawD ∈ recsOf hd.view_39 := List.mem_of_find?_eq_some law_rec
  have nT : topoD.name = ("_toposort" : Str) := by rfl
  have nR : revD.name = ("reverse_dict" : Str) := by rfl
  have nG : graphD.name = ("_law_graph" : Str) := by rfl
  have nL : lawD.name = ("law" : Str) := by rfl
  obtain ⟨a1, o1, pm1, cd1, doc1, l1, l2, l3, l4⟩ := T.fn lawD mL
  obtain ⟨a2, o2, pm2, cd2, doc2, g1, g2, g3, g4⟩ := T.fn graphD mG
  obtain ⟨a3, o3, pm3, cd3, doc3, t1, t2, t3, t4⟩ := T.fn topoD mT
  obtain ⟨a4, o4, pm4, cd4, doc4, r1, r2, r3, r4⟩ := T.fn revD mR
  obtain ⟨a5, o5, fd5, c, P, u1, u2, u3, u4, u5, u6⟩ := T.tab topoD mT
  have ha : a1 = fa := by rw [nL, hmg] at l1; cases l1; rfl
  subst ha
  have ha5 : a5 = a3 := by rw [t1] at u1; cases u1; rfl
  subst ha5
  have ho5 : o5 = o3 := by rw [t2] at u2; cases u2; rfl
  subst ho5
  have hcd3 : cd3 = .ref c := by
    rw [t3] at u3
    injection u3 with e
    subst e
    exact u4
  subst hcd3
  rw [nT] at t1; rw [nR] at r1; rw [nG] at g1
  have hbig : sysModules < s.heap.objs.size := by
    obtain ⟨mc, hmc, _⟩ := T.nolimit
    exact Nat.lt_trans (by decide) hmc.lt
  have hPs : P ≠ cStatics := by
    obtain ⟨mc, hmc, _⟩ := T.nolimit
    exact Ne.symm (ns_off u6 hmc)
  refine law_spec (by rfl) (by rfl) (by decide) (by decide) l2 l3 l4 ⟨T.g, T.b, T.nolimit, T.builtins⟩ T.bmain hbig g1 g2 g3 g4 t1 t2 t3 t4 ⟨a4, o4, pm4, cd4, doc4, r1, r2, r3, r4⟩
    (T.free "tuple" (by decide +kernel) (by decide +kernel) (by decide +kernel) (by decide +kernel) (by decide +kernel)) (T.free "set" (by decide +kernel) (by decide +kernel) (by decide +kernel) (by decide +kernel) (by decide +kernel))
    (T.free "dict" (by decide +kernel) (by decide +kernel) (by decide +kernel) (by decide +kernel) (by decide +kernel)) (T.free "any" (by decide +kernel) (by decide +kernel) (by decide +kernel) (by decide +kernel) (by decide +kernel))
    (T.free "ValueError" (by decide +kernel) (by decide +kernel) (by decide +kernel) (by decide +kernel) (by decide +kernel)) (T.free "range" (by decide +kernel) (by decide +kernel) (by decide +kernel) (by decide +kernel) (by decide +kernel))
    (T.free "len" (by decide +kernel) (by decide +kernel) (by decide +kernel) (by decide +kernel) (by decide +kernel)) (T.free "sorted" (by decide +kernel) (by decide +kernel) (by decide +kernel) (by decide +kernel) (by decide +kernel))
    u5 u6 (by rw [hg]; intro y hy; simp at hy) hr hri hlen ?_
  intro h' tok dr gens' ps' f ht hb
  refine hR h' tok dr gens' (OldK.step_table (OldK.refl s.heap) u6 u6 (more := ps') (by simpa using ht) (fun b o hb e => f b o (by simpa using hb) e) hPs) hb
end
end Mine
end

open PySem PySem.W PyProof.Rows PySem.Calls
set_option maxRecDepth 100000 in
set_option maxHeartbeats 8000000 in
theorem PySem.Challenge.cw_sv0009_01_holds : PySem.Challenge.rw_sv0009_01.Holds := by
  refine Mine.hd ?_
  k_fill
  intro w s₀ s₁ mg mb G Y fa o pm cd doc dV kV ho hd hcd hD hmg hg args vals as hpre hlay hrd hwl hlo
  have V := (Ground.X G).2
  refine Ground.open G ?_
  intro T B D TE TW
  try (refine guard_noD D (by decide +kernel) ?_; clear D)
  have hmg0 := hmg
  wrow_args hpre hlay hrd hwl hlo
  all_goals (
    first | refine callC_kw (enter_call ?_) | refine enter_call ?_ | refine callC_kw (enter_callW ?_) | refine enter_callW ?_ | w_how
    w_top on)
  rename_i hL hra hw1 hr0 hI hrr hc1 hc2
  refine Mine.law_of_top T rfl hmg0 hg hL hI (by omega) fun h' tok dr gens' hO hB => ⟨.inl ⟨.bool true, .bool true, [], rfl, raisesW_false ?_, .bool true, ?_, unshared_nil⟩, hO, rfl, hB⟩
  · wrow_none_raised
  · wrow_post
