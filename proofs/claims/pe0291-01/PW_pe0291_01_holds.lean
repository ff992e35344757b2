import PyProof.Rows.All
import Wide.All
import OpenK.AllK
import Wide.FinOn
import KE.KPairComp
import Lean
import PySem.Challenge.RW_pe0291_01
open PySem PySem.W PySem.Calls PyProof.Rows
set_option Elab.async false
set_option autoImplicit false
set_option linter.all false
set_option maxRecDepth 1000000
set_option maxHeartbeats 8000000
namespace Mine
section
variable {prog : Program} {w : World} {A : Around} {E : Value → Shared → Prop} {s : Shared} {a : Addr}
theorem noBool_set : typeLookup (.type "set") "__bool__" = pure none := by rw [typeLookup_type, builtinLookup_eq_fast]; kernel_rfl
theorem truthy_set {o : Obj} {es : Array (Int × Value)} {ep : Nat} {t : SetTable} {Q : Bool → Shared → Prop}
    (ho : s.heap.get? a = some o) (hex : o.ExactSet) (hd : o.data = .set es ep t) (hf : t.fits es.size = true) (hfit : (es.size : Int) < 2 ^ 63)
    (h : Q (!es.isEmpty) { s with toks := s.toks + 1 + 1 }) : wpAny (model prog w) A (truthy (.ref a)) Q E s := by
  have hT : s.TypeIs (.ref a) "set" := ⟨o, ho, hex.1⟩
  have hne : ((es.size : Int) != 0) = !es.isEmpty := by
    unfold Array.isEmpty
    rcases Nat.eq_zero_or_pos es.size with e | e
    · rw [e]; rfl
    · have h2 : es.size ≠ 0 := by omega
      have h1 : ((es.size : Int) != 0) = true := bne_iff_ne.mpr (by omega)
      rw [h1, decide_eq_false h2]; rfl
  have key : wpAny (model prog w) A (runValue (.builtin "len" ⟨[.ref a], []⟩)) (fun r s' => r = .int es.size (s.toks + 1) ∧ Q (!es.isEmpty) s') E s := by
    refine wpAny_runValue (codeAny_builtin entry_len ?_)
    rw [Around.under_plainId plain_len _]
    exact wpAny_mono (wpAny_len_body_set (Q := fun r s' => r = .int es.size (s.toks + 1) ∧ Q (!es.isEmpty) s') ho hex hd hf hfit ⟨rfl, h⟩)
      (fun fin s' h' => by obtain ⟨r, rfl, hq⟩ := h'; exact hq) fun _ _ e => e
  unfold truthy
  first
    | refine wpAny_bind (wpAny_callSpecial?_none (name := Str.ofString "__bool__") hT noBool_set ?_)
    | refine wpAny_bind (wpAny_pure (wpAny_bind (wpAny_callSpecial?_none (name := Str.ofString "__bool__") hT noBool_set ?_)))
  first
    | refine wpAny_bind (wpAny_specialOf (name := Str.ofString "__len__") hT F.slot_set_len.lookup ?_)
    | refine wpAny_bind (wpAny_pure (wpAny_bind (wpAny_specialOf (name := Str.ofString "__len__") hT F.slot_set_len.lookup ?_)))
  first
    | exact wpAny_bind (wpAny_mono key (fun r s' h' => by obtain ⟨rfl, hq⟩ := h'; exact wpAny_pure (hne ▸ hq)) fun _ _ e => e)
    | exact wpAny_bind (wpAny_pure (wpAny_bind (wpAny_mono key (fun r s' h' => by obtain ⟨rfl, hq⟩ := h'; exact wpAny_pure (hne ▸ hq)) fun _ _ e => e)))
theorem setOf_empty {o : Obj} {ep : Nat} {t : SetTable} (ho : s.heap.get? a = some o) (hex : o.ExactSet) (hd : o.data = .set #[] ep t) (hf : t.fits 0 = true) : s.heap.SetOf (PySem.intKind prog w) a (fun _ => false) 0 :=
  ⟨o, #[], ep, t, ho, hex, hd, fun e he => by simp at he, fun k => by simp, by decide, hf, rfl⟩
theorem in_empty {o : Obj} {ep : Nat} {t : SetTable} {i : Int} {tk : Tok} {Q : Value → Shared → Prop} (ho : s.heap.get? a = some o) (hex : o.ExactSet) (hd : o.data = .set #[] ep t) (hf : t.fits 0 = true)
    (h : Q (.bool false) { s with toks := s.toks + 1 }) : wpAny (model prog w) A (compareOp .In (.int i tk) (.ref a)) Q E s :=
  wpAny_inSet_of (knd := PySem.intKind prog w) (intKind_is _ _ _ _) rfl (setOf_empty ho hex hd hf) h
theorem new_set {Q : Value → Shared → Prop} (h : ∀ led : Bool, Q (.ref s.heap.objs.size) { s with heap := s.heap.push { cls := .type "set", dict := none, data := .set #[] 0 (.fresh 0 0 led) } }) :
    wpAny (model prog w) A (newSet (.type "set")) Q E s := wpAny_newSet_of (knd := PySem.intKind prog w) fun led _ => h led
theorem any_choose {src : Source} {n : Nat} {Q : Nat → Shared → Prop} (hn : n ≠ 0) (h : ∀ i dr, i < n → Q i { s with drawn := dr }) : wpAny (model prog w) A (choose src n) Q E s := by
  intro Γ p hΓ
  show Sem.wp _ _ (Sem.choose src n .pure) _ _ _ _
  rw [Sem.wp_choose]
  exact ⟨hn, h _ _ (Nat.mod_lt _ (Nat.pos_of_ne_zero hn))⟩
theorem popPlace_one {t : SetTable} (hf : t.fits 1 = true) : ∃ i, t.popPlace = some i ∧ i < 1 ∧ (t.popped i).fits 0 = true := by
  unfold SetTable.fits at hf
  rw [Bool.and_eq_true] at hf
  have hs : t.place.size = 1 := by simpa using hf.1
  have hfl : t.fill ≤ t.mask := by simpa using hf.2
  have hne : t.place.isEmpty = false := by
    unfold Array.isEmpty
    rw [hs]; rfl
  have h0 : ∀ j, t.place[0]? = some j → (t.popped 0).fits 0 = true := fun j hj => by
    unfold SetTable.popped SetTable.drop SetTable.fits SetTable.fill
    rw [hj]
    unfold SetTable.fill at hfl
    dsimp only
    have e1 : (SetTable.eraseAt t.place 0).size = 0 := by unfold SetTable.eraseAt; simp [hs]
    have e2 : (SetTable.insertAt t.dummies (SetTable.below t.dummies j) j).size = t.dummies.size + 1 := by
      have := congrArg List.length (SetTable.toList_insertAt t.dummies (SetTable.below t.dummies j) j)
      simp at this
      rw [this]
      omega
    rw [e1, e2, Bool.and_eq_true]
    exact ⟨rfl, by simp; omega⟩
  obtain ⟨j, hj⟩ : ∃ j, t.place[0]? = some j := ⟨t.place[0]'(by omega), Array.getElem?_eq_getElem (by omega)⟩
  unfold SetTable.popPlace
  rw [hne]
  simp only [Bool.false_eq_true, if_false]
  refine ⟨_, rfl, ?_, ?_⟩
  · split <;> omega
  · have : ∀ i, i < 1 → (t.popped i).fits 0 = true := fun i hi => by
      have : i = 0 := by omega
      subst this
      exact h0 j hj
    apply this
    split <;> omega
theorem pop_one {o : Obj} {hh : Int} {x : Value} {ep : Nat} {t : SetTable} {Q : Value → Shared → Prop} (ho : s.heap.get? a = some o) (hex : o.ExactSet) (hd : o.data = .set #[(hh, x)] ep t) (hf : t.fits 1 = true)
    (h : ∀ h' o' ep' t' dr, Heap.SameBut a s.heap h' → h'.get? a = some o' → o'.ExactSet → o'.data = .set #[] ep' t' → t'.fits 0 = true → Q x { s with heap := h', drawn := dr }) :
    wpAny (model prog w) A (call (.builtin "set.pop") [.ref a]) Q E s := by
  have hT : s.TypeIs (.ref a) "set" := ⟨o, ho, hex.1⟩
  obtain ⟨bf, e1, e2, e3⟩ := popPlace_one hf
  refine wpAny_call_entry F.slot_set_pop hT F.entry_set_pop ?_ (F.args_set_pop_1 _)
  unfold Builtin.«set.pop» Builtin.Frozenset.noArgs
  refine wpAny_bind (wpAny_bind (wpAny_pure ?_))
  refine wpAny_pure ?_
  unfold setPop
  refine wpAny_bind (wpAny_bind (wpAny_setState_of ho hd hf ?_))
  dsimp only
  rw [e1]
  dsimp only
  have key : ∀ (dr : Drawn) (Q' : Option Value → Shared → Prop), (∀ h' o' ep' t', Heap.SameBut a s.heap h' → h'.get? a = some o' → o'.ExactSet → o'.data = .set #[] ep' t' → t'.fits 0 = true → Q' (some x) { s with heap := h', drawn := dr }) →
      wpAny (model prog w) A.in1 (storeSet a (SetTable.eraseAt #[(hh, x)] 0) (t.popped 0) >>= fun _ => pure (some x)) Q' E { s with drawn := dr } := fun dr Q' hQ => by
    refine wpAny_bind (wpAny_storeSet_of (s := { s with drawn := dr }) ho hd (wpAny_pure ?_) (by simp [SetTable.eraseAt, sizeLine_eq]))
    have e0 : SetTable.eraseAt #[(hh, x)] 0 = #[] := by simp [SetTable.eraseAt]
    have hg := Heap.get?_update_self (Obj.putSet (SetTable.eraseAt #[(hh, x)] 0) (t.popped 0)) ho (by rw [putSet_of _ _ hd]; rfl)
    have hp := putSet_of (SetTable.eraseAt #[(hh, x)] 0) (t.popped 0) hd
    have hbf : bf = 0 := by omega
    subst hbf
    refine hQ _ { o with data := .set #[] (ep + 1) (t.popped 0) } (ep + 1) (t.popped 0) (Heap.SameBut.update ..) ?_ hex rfl e3
    rw [hg, hp, e0]
  have fin : ∀ (dr : Drawn), wpAny (model prog w) A.in1 (storeSet a (SetTable.eraseAt #[(hh, x)] 0) (t.popped 0) >>= fun _ => pure (some x)) (fun r s' => wpAny (model prog w) A.in1 (match r with | some x => ret x | x => do rule "set.pop.empty"; raiseErrorWords "KeyError" "pop from an empty set") (fun fin s' => ∃ v, fin = Fin.done (Flow.ret v) ∧ Q v s') E s') E { s with drawn := dr } := fun dr =>
    key dr _ fun h' o' ep' t' a1 a2 a3 a4 a5 => wpAny_pure ⟨_, rfl, h h' o' ep' t' dr a1 a2 a3 a4 a5⟩
  unfold setsByText
  refine wpAny_bind (wpAny_bind (wpAny_askSetting (wpAny_pure ?_)))
  split
  · refine wpAny_bind (any_choose (by simp) fun i dr hi => ?_)
    have : i = 0 := by simp at hi; omega
    subst this
    exact fin dr
  · refine wpAny_bind (wpAny_of_eq (a := ()) ?_ (wpAny_bind (wpAny_pure ?_)))
    · obtain ⟨_, _, _, _, led, _, _⟩ := t
      cases led <;> rfl
    · have : bf = 0 := by omega
      subst this
      exact fin s.drawn
theorem int_of_kind {i : Int} {v : Value} (h : (PySem.intKind prog w).is i v = true) : ∃ tk, v = .int i tk := by
  obtain ⟨t, rfl⟩ := Value.isInt_shape h
  exact ⟨t, rfl⟩
theorem set_one {h : Heap} {i : Int} {S' : Int → Bool} (hS : h.SetOf (PySem.intKind prog w) a S' 1) (hi : S' i = true) : ∃ o' hh tk ep' t', h.get? a = some o' ∧ o'.ExactSet ∧ o'.data = .set #[(hh, .int i tk)] ep' t' ∧ t'.fits 1 = true := by
  obtain ⟨o, es, ep, t, h1, h2, h3, h4, h5, h6, h7, h8⟩ := hS
  obtain ⟨e, he, hk⟩ := (h5 i).mp hi
  obtain ⟨tk, hv⟩ := int_of_kind hk
  have : es = #[e] := by
    obtain ⟨l⟩ := es
    match l, h8, he with
    | [x], _, he => rw [List.mem_singleton.mp he]
  subst this
  exact ⟨o, e.1, tk, ep, t, h1, h2, by rw [h3, ← hv], h7⟩
theorem add_one {o : Obj} {ep : Nat} {t : SetTable} {i : Int} {tk : Tok} {Q : Bool → Shared → Prop} (ho : s.heap.get? a = some o) (hex : o.ExactSet) (hd : o.data = .set #[] ep t) (hf : t.fits 0 = true)
    (h : ∀ h' tk' o' hh tk2 ep' t', Heap.SameBut a s.heap h' → h'.get? a = some o' → o'.ExactSet → o'.data = .set #[(hh, .int i tk2)] ep' t' → t'.fits 1 = true → Q true { s with heap := h', toks := tk' }) :
    wpAny (model prog w) A (setAdd a (.int i tk)) Q E s := by
  unfold setAdd
  refine wpAny_holding (wpAny_bind ((PySem.intKind prog w).pyHash (intKind_is _ _ _ _) ?_))
  refine wpAny_setAddHashed_of (s := { s with toks := s.toks + 1 }) (knd := PySem.intKind prog w) (k := i) (intKind_is _ _ _ _) rfl (setOf_empty ho hex hd hf) (by decide) fun h' hsb hS' => ?_
  obtain ⟨o', hh, tk2, ep', t', a1, a2, a3, a4⟩ := set_one (i := i) hS' (by simp)
  exact h h' _ o' hh tk2 ep' t' hsb a1 a2 a3 a4
theorem dictAt_empty {h : Heap} (ho : h.get? a = some { cls := .type "dict", data := .dict #[] }) : h.DictAt (PySem.intKind prog w) a [] 0 :=
  ⟨_, #[], ho, ⟨rfl, rfl, rfl⟩, rfl, fun e he => by simp at he, .nil, List.nodup_nil⟩
theorem dictOf_empty {h : Heap} (ho : h.get? a = some { cls := .type "dict", data := .dict #[] }) : h.DictOf (PySem.intKind prog w) a [] :=
  ⟨_, #[], 0, ho, ⟨rfl, rfl, rfl⟩, rfl, fun e he => by simp at he, .nil, List.nodup_nil⟩
end
inductive AV where
  | none
  | bool (b : Bool)
  | int (i : Int)
  | str (s : Str)
  | typ (n : String)
  | blt (n : String)
  | old (a : Addr)
  | ref (k : Nat)
  deriving Inhabited
inductive AO where
  | list (xs : List AV)
  | rlist (xs : List AV)
  | tup (xs : List AV)
  | ns (nm : List Str) (m : List (Option AV))
  | cell (v : Option AV)
  | fn (params : Arguments) (body : List Stmt) (scope : Scope) (qual : Str) (cl : List (Str × Nat)) (tab : Addr)
  | inst (C : Addr) (d : Nat)
  | edict
  | dview (d : Nat)
  | eset
  | set1 (i : Int)
  | any
  deriving Inhabited
abbrev St := List AO
inductive All2 {α β : Type} (R : α → β → Prop) : List α → List β → Prop
  | nil : All2 R [] []
  | cons {a b l m} : R a b → All2 R l m → All2 R (a :: l) (b :: m)
theorem All2.mono {α β : Type} {R S : α → β → Prop} (h : ∀ a b, R a b → S a b) : ∀ {l m}, All2 R l m → All2 S l m
  | _, _, .nil => .nil
  | _, _, .cons x r => .cons (h _ _ x) (r.mono h)
theorem All2.length {α β : Type} {R : α → β → Prop} : ∀ {l m}, All2 R l m → l.length = m.length
  | _, _, .nil => rfl
  | _, _, .cons _ r => by simp [r.length]
theorem All2.append {α β : Type} {R : α → β → Prop} : ∀ {l m l' m'}, All2 R l m → All2 R l' m' → All2 R (l ++ l') (m ++ m')
  | _, _, _, _, .nil, y => y
  | _, _, _, _, .cons h r, y => .cons h (r.append y)
theorem All2.get {α β : Type} {R : α → β → Prop} : ∀ {l m}, All2 R l m → ∀ {i : Nat} {a}, l[i]? = some a → ∃ b, m[i]? = some b ∧ R a b
  | _, _, .nil, i, a, h => by simp at h
  | _, _, .cons x r, 0, a, h => by simp at h; subst h; exact ⟨_, rfl, x⟩
  | _, _, .cons x r, i + 1, a, h => by simpa using r.get (by simpa using h)
theorem All2.take {α β : Type} {R : α → β → Prop} : ∀ {l m} (_ : All2 R l m) (n : Nat), All2 R (l.take n) (m.take n)
  | _, _, .nil, n => by simp; exact .nil
  | _, _, .cons x r, 0 => .nil
  | _, _, .cons x r, n + 1 => .cons x (r.take n)
theorem All2.drop {α β : Type} {R : α → β → Prop} : ∀ {l m} (_ : All2 R l m) (n : Nat), All2 R (l.drop n) (m.drop n)
  | _, _, .nil, n => by simp; exact .nil
  | _, _, .cons x r, 0 => .cons x r
  | _, _, .cons x r, n + 1 => by simpa using r.drop n
theorem All2.reverse {α β : Type} {R : α → β → Prop} : ∀ {l m} (_ : All2 R l m), All2 R l.reverse m.reverse
  | _, _, .nil => .nil
  | _, _, .cons x r => by simpa using r.reverse.append (.cons x .nil)
theorem All2.set {α β : Type} {R : α → β → Prop} : ∀ {l m} (_ : All2 R l m) (i : Nat) {a b} (_ : R a b), All2 R (l.set i a) (m.set i b)
  | _, _, .nil, _, _, _, _ => .nil
  | _, _, .cons x r, 0, _, _, y => .cons y r
  | _, _, .cons x r, i + 1, _, _, y => .cons x (r.set i y)
def OptR {α β : Type} (R : α → β → Prop) : Option α → Option β → Prop
  | .none, .none => True
  | some a, some b => R a b
  | _, _ => False
theorem OptR.mono {α β : Type} {R S : α → β → Prop} (h : ∀ a b, R a b → S a b) : ∀ {x y}, OptR R x y → OptR S x y
  | .none, .none, _ => trivial
  | some _, some _, x => h _ _ x
  | some _, .none, x => x.elim
  | .none, some _, x => x.elim
theorem OptR.some {α β : Type} {R : α → β → Prop} {a : α} {y : Option β} (h : OptR R (some a) y) : ∃ b, y = some b ∧ R a b := by
  cases y with
  | none => exact h.elim
  | some b => exact ⟨b, rfl, h⟩
def VR (ρ : List Addr) : AV → Value → Prop
  | .none, v => v = .none
  | .bool b, v => v = .bool b
  | .int i, v => ∃ t, v = .int i t
  | .str s, v => ∃ t, v = .str s t
  | .typ n, v => v = .type n
  | .blt n, v => v = .builtin n
  | .old a, v => v = .ref a
  | .ref k, v => ∃ a, ρ[k]? = some a ∧ v = .ref a
theorem pre_get {α : Type} {ρ ρ' : List α} (h : ρ <+: ρ') {k : Nat} {a : α} (e : ρ[k]? = some a) : ρ'[k]? = some a := by
  obtain ⟨t, rfl⟩ := h
  have := (List.getElem?_eq_some_iff.mp e).1
  rw [List.getElem?_append_left this]; exact e
theorem VR.mono {ρ ρ' : List Addr} (h : ρ <+: ρ') : ∀ {a : AV} {v : Value}, VR ρ a v → VR ρ' a v
  | .none, _, x => x
  | .bool _, _, x => x
  | .int _, _, x => x
  | .str _, _, x => x
  | .typ _, _, x => x
  | .blt _, _, x => x
  | .old _, _, x => x
  | .ref _, _, ⟨a, e, x⟩ => ⟨a, pre_get h e, x⟩
def ClR (ρ : List Addr) (cl : List (Str × Nat)) (cs : List (Str × Addr)) : Prop := All2 (fun p q => p.1 = q.1 ∧ ρ[p.2]? = some q.2) cl cs
def OR (ρ : List Addr) : AO → Obj → Prop
  | .list xs, o => ∃ vs n, o = { cls := .type "list", data := .seq vs.toArray n } ∧ All2 (VR ρ) xs vs
  | .rlist xs, o => ∃ vs n, o.cls = .type "list" ∧ o.data = .seq vs.toArray n ∧ All2 (VR ρ) xs vs
  | .tup xs, o => ∃ vs n, o = { cls := .type "tuple", data := .seq vs.toArray n } ∧ All2 (VR ρ) xs vs
  | .ns nm m, o => ∃ es ep, o.data = .dict es ep ∧ StrKeys es ∧ m.length = nm.length ∧ ∀ x, x ∈ nm → OptR (VR ρ) (m.getD (nm.idxOf x) .none) (nsFind es x)
  | .cell v, o => ∃ v', o.data = .cell v' ∧ OptR (VR ρ) v v'
  | .fn params body scope qual cl _, o => ∃ (fd : FuncData) (cs : List (Str × Addr)), o.cls = .type "function" ∧ o.dict = Option.none ∧ o.data = .func fd ∧ fd.params = params ∧ fd.body = .stmts body ∧ fd.scope = scope ∧ fd.qualname = qual ∧ fd.globals = mainGlobals ∧ fd.builtins = builtinsNs ∧
      fd.closure = cs ∧ ClR ρ cl cs ∧ fd.defaults = .none ∧ fd.kwdefaults = .none
  | .inst C d, o => ∃ dx, ρ[d]? = some dx ∧ o = ⟨.ref C, some dx, .plain, #[]⟩
  | .edict, o => o = { cls := .type "dict", data := .dict #[] }
  | .dview d, o => ∃ dx, ρ[d]? = some dx ∧ o = { cls := .type "dict_items", data := .fields #[.ref dx] }
  | .eset, o => o.ExactSet ∧ ∃ ep t, o.data = .set #[] ep t ∧ t.fits 0 = true
  | .set1 i, o => o.ExactSet ∧ ∃ h tk ep t, o.data = .set #[(h, .int i tk)] ep t ∧ t.fits 1 = true
  | .any, _ => True
theorem ClR.mono {ρ ρ' : List Addr} (h : ρ <+: ρ') {cl cs} (x : ClR ρ cl cs) : ClR ρ' cl cs := All2.mono (fun _ _ y => ⟨y.1, pre_get h y.2⟩) x
theorem OR.mono {ρ ρ' : List Addr} (h : ρ <+: ρ') : ∀ {ao : AO} {o : Obj}, OR ρ ao o → OR ρ' ao o
  | .list _, _, ⟨vs, n, e, r⟩ => ⟨vs, n, e, r.mono fun _ _ => VR.mono h⟩
  | .rlist _, _, ⟨vs, n, e, e2, r⟩ => ⟨vs, n, e, e2, r.mono fun _ _ => VR.mono h⟩
  | .tup _, _, ⟨vs, n, e, r⟩ => ⟨vs, n, e, r.mono fun _ _ => VR.mono h⟩
  | .ns _ _, _, ⟨es, ep, e, k, l, r⟩ => ⟨es, ep, e, k, l, fun x hx => (r x hx).mono fun _ _ => VR.mono h⟩
  | .cell _, _, ⟨v, e, r⟩ => ⟨v, e, r.mono fun _ _ => VR.mono h⟩
  | .fn .., _, ⟨fd, cs, a0, a00, a1, a2, a3, a4, a5, a6, a7, a8, a9, a10, a11⟩ => ⟨fd, cs, a0, a00, a1, a2, a3, a4, a5, a6, a7, a8, a9.mono h, a10, a11⟩
  | .inst _ _, _, ⟨dx, e, r⟩ => ⟨dx, pre_get h e, r⟩
  | .edict, _, e => e
  | .dview _, _, ⟨dx, e, r⟩ => ⟨dx, pre_get h e, r⟩
  | .eset, _, e => e
  | .set1 _, _, e => e
  | .any, _, _ => trivial
structure TabD where
  P : Addr
  line : Nat
  col : Nat
  q : Str
structure Base where
  g : Heap
  pins : List (Addr × Obj)
  os : OsState
  tabs : List TabD
def Base.keep (B : Base) (a : Addr) (o : Obj) : Prop := B.g.get? a = some o ∨ (a, o) ∈ B.pins
def Base.pin (B : Base) (a : Addr) (o : Obj) : Base := { B with pins := (a, o) :: B.pins }
def AO.isRO : AO → Bool
  | .rlist _ => true
  | _ => false
def Rsv (h : Heap) (t : TabD) (b : Addr) : Prop := b = t.P ∨ h.get? t.P = some (tabObj #[rawInt t.line, rawInt t.col, .ref b])
structure TabOk (B : Base) (ρ : List Addr) (h : Heap) (t : TabD) : Prop where
  off : ∀ b, Rsv h t b → b ∉ ρ ∧ ∀ o, ¬ B.keep b o
  st : h.get? t.P = some (tabObj #[]) ∨ ∃ c, h.get? t.P = some (tabObj #[rawInt t.line, rawInt t.col, .ref c]) ∧ h.CodeRec (.ref c) t.q
def FnCode (B : Base) (h : Heap) (a P : Addr) (q : Str) : Prop := ∃ o fd c t, h.get? a = some o ∧ o.data = .func fd ∧ fd.code = .ref c ∧ t ∈ B.tabs ∧ t.P = P ∧ t.q = q ∧ h.get? P = some (tabObj #[rawInt t.line, rawInt t.col, .ref c])
theorem TabOk.live {B : Base} {ρ : List Addr} {h : Heap} {t : TabD} (x : TabOk B ρ h t) {b : Addr} (r : Rsv h t b) : ∃ o, h.get? b = some o := by
  rcases x.st with e | ⟨c, e, ⟨c', o, _, _, e1, e2, _⟩⟩
  · rcases r with rfl | r
    · exact ⟨_, e⟩
    · rw [e] at r
      have := congrArg (fun o : Option Obj => match o with | some ⟨_, _, .fields vs, _⟩ => vs.size | _ => 0) r
      simp at this
  · cases e1
    rcases r with rfl | r
    · exact ⟨_, e⟩
    · rw [e] at r
      have : c = b := by
        have := congrArg (fun o : Option Obj => match o with | some ⟨_, _, .fields vs, _⟩ => vs[2]? | _ => none) r
        simpa using this
      subst this
      exact ⟨o, e2⟩
theorem TabOk.move {B B' : Base} {ρ ρ' : List Addr} {h h' : Heap} {t : TabD} (x : TabOk B ρ h t) (hk : ∀ b o, Rsv h t b → h.get? b = some o → h'.get? b = some o) (hn : ∀ b, Rsv h t b → b ∉ ρ' ∧ ∀ o, ¬ B'.keep b o) : TabOk B' ρ' h' t := by
  obtain ⟨oP, eP⟩ := x.live (.inl rfl)
  have eP' := hk _ _ (.inl rfl) eP
  have back : ∀ b, Rsv h' t b → Rsv h t b := fun b r => r.imp id fun e => by rw [eP'] at e; rw [eP]; exact e
  refine ⟨fun b r => hn b (back b r), ?_⟩
  rcases x.st with e | ⟨c, e, hc⟩
  · exact .inl (hk _ _ (.inl rfl) e)
  · refine .inr ⟨c, hk _ _ (.inl rfl) e, ?_⟩
    obtain ⟨c', o, vs, tt, e1, e2, e3⟩ := hc
    cases e1
    exact ⟨c, o, vs, tt, rfl, hk _ _ (.inr e) e2, e3⟩
theorem FnCode.move {B B' : Base} {h h' : Heap} {a P : Addr} {q : Str} (x : FnCode B h a P q) (ha : ∀ o, h.get? a = some o → h'.get? a = some o) (hP : ∀ t ∈ B.tabs, ∀ o, h.get? t.P = some o → h'.get? t.P = some o) (hB : B'.tabs = B.tabs) : FnCode B' h' a P q :=
  let ⟨o, fd, c, t, e1, e2, e3, e4, e5, e6, e7⟩ := x
  ⟨o, fd, c, t, ha _ e1, e2, e3, hB ▸ e4, e5, e6, by rw [← e5] at e7 ⊢; exact hP t e4 _ e7⟩
structure SR (B : Base) (ρ : List Addr) (st : St) (s : Shared) : Prop where
  keep : ∀ a o, B.keep a o → s.heap.get? a = some o
  len : ρ.length = st.length
  nd : ρ.Nodup
  apart : ∀ (k : Nat) (a : Addr) (ao : AO), ρ[k]? = some a → st[k]? = some ao → ao.isRO = false → ∀ o, ¬ B.keep a o
  obj : ∀ (k : Nat) (a : Addr) (ao : AO), ρ[k]? = some a → st[k]? = some ao → ∃ o, s.heap.get? a = some o ∧ OR ρ ao o
  gens : s.gens = #[]
  os : s.os = B.os
  eds : ∀ (k : Nat) (a : Addr), ρ[k]? = some a → st[k]? = some .edict → a ≠ sysModules
  tab : ∀ t ∈ B.tabs, TabOk B ρ s.heap t
  fns : ∀ (k : Nat) (a : Addr) (ps : Arguments) (body : List Stmt) (scope : Scope) (q : Str) (cl : List (Str × Nat)) (P : Addr), ρ[k]? = some a → st[k]? = some (.fn ps body scope q cl P) → FnCode B s.heap a P q
namespace SR
variable {B : Base} {ρ : List Addr} {st : St} {s : Shared}
theorem tabKeep (S : SR B ρ st s) {h' : Heap} (hk : ∀ b o, b ∉ ρ → (∀ o, ¬ B.keep b o) → s.heap.get? b = some o → h'.get? b = some o) : (∀ t ∈ B.tabs, TabOk B ρ h' t) ∧ ∀ t ∈ B.tabs, ∀ o, s.heap.get? t.P = some o → h'.get? t.P = some o :=
  ⟨fun t ht => (S.tab t ht).move (fun b o r e => hk b o ((S.tab t ht).off b r).1 ((S.tab t ht).off b r).2 e) (S.tab t ht).off, fun t ht o e => hk _ o ((S.tab t ht).off _ (.inl rfl)).1 ((S.tab t ht).off _ (.inl rfl)).2 e⟩
theorem addr (S : SR B ρ st s) {k : Nat} {ao : AO} (h : st[k]? = some ao) : ∃ a o, ρ[k]? = some a ∧ s.heap.get? a = some o ∧ OR ρ ao o := by
  have hk := (List.getElem?_eq_some_iff.mp h).1
  rw [← S.len] at hk
  obtain ⟨o, h1, h2⟩ := S.obj k _ ao (List.getElem?_eq_getElem hk) h
  exact ⟨_, o, List.getElem?_eq_getElem hk, h1, h2⟩
theorem slot (S : SR B ρ st s) {k : Nat} {a : Addr} (h : ρ[k]? = some a) : ∃ ao, st[k]? = some ao := by
  have hk := (List.getElem?_eq_some_iff.mp h).1
  rw [S.len] at hk
  exact ⟨_, List.getElem?_eq_getElem hk⟩
theorem lt (S : SR B ρ st s) {a : Addr} (h : a ∈ ρ) : a < s.heap.objs.size := by
  obtain ⟨k, hk⟩ := List.mem_iff_getElem?.mp h
  obtain ⟨ao, ha⟩ := S.slot hk
  obtain ⟨o, e, _⟩ := S.obj k a ao hk ha
  exact Heap.lt_size e
theorem grown (S : SR B ρ st s) {h' : Heap} {tk : Nat} (hk : ∀ a o, s.heap.get? a = some o → h'.get? a = some o) : SR B ρ st { s with heap := h', toks := tk } :=
  ⟨fun a o x => hk a o (S.keep a o x), S.len, S.nd, S.apart, fun k a ao e f => let ⟨o, x, y⟩ := S.obj k a ao e f; ⟨o, hk a o x, y⟩, S.gens, S.os, S.eds, (S.tabKeep fun b o _ _ e => hk b o e).1, fun k a ps body sc q cl P e f => (S.fns k a ps body sc q cl P e f).move (fun o e => hk a o e) (fun t _ o e => hk _ o e) rfl⟩
theorem toks (S : SR B ρ st s) {tk : Nat} : SR B ρ st { s with toks := tk } := S.grown (h' := s.heap) fun _ _ e => e
theorem alloc (S : SR B ρ st s) {h' : Heap} {tk : Nat} {a : Addr} {o : Obj} {ao : AO} (hk : ∀ a o, s.heap.get? a = some o → h'.get? a = some o) (hn : s.heap.get? a = Option.none)
    (ho : h'.get? a = some o) (hr : OR (ρ ++ [a]) ao o) (hnt : ∀ ps body sc q cl P, ao ≠ .fn ps body sc q cl P := by intro _ _ _ _ _ _ e; cases e) (hed : ao = .edict → a ≠ sysModules := by intro e; cases e) : SR B (ρ ++ [a]) (st ++ [ao]) { s with heap := h', toks := tk } := by
  have hna : a ∉ ρ := fun hm => by
    obtain ⟨k, hk'⟩ := List.mem_iff_getElem?.mp hm
    obtain ⟨ao', ha⟩ := S.slot hk'
    obtain ⟨o', e, _⟩ := S.obj k a ao' hk' ha
    rw [hn] at e; cases e
  have pre : ρ <+: ρ ++ [a] := List.prefix_append _ _
  refine ⟨fun b o' x => hk b o' (S.keep b o' x), by simp [S.len], ?_, ?_, ?_, S.gens, S.os, (fun k b hb hao => by
    by_cases hlt : k < ρ.length
    · rw [List.getElem?_append_left hlt] at hb
      rw [List.getElem?_append_left (S.len ▸ hlt)] at hao
      exact S.eds k b hb hao
    · rw [List.getElem?_append_right (Nat.le_of_not_lt hlt)] at hb
      rw [List.getElem?_append_right (S.len ▸ Nat.le_of_not_lt hlt)] at hao
      cases hq : k - ρ.length with
      | zero =>
        rw [hq] at hb; rw [← S.len, hq] at hao
        simp at hb hao; subst hb
        exact hed hao
      | succ j => rw [hq] at hb; simp at hb), fun t ht => (S.tab t ht).move (fun b o _ e => hk b o e) (fun b r => ⟨fun hm => ?_, ((S.tab t ht).off b r).2⟩), ?_⟩
  · rw [List.nodup_append]
    exact ⟨S.nd, by simp, fun x hx y hy => by rw [List.mem_singleton.mp hy]; exact fun e => hna (e ▸ hx)⟩
  · intro k b ao' hb hao hro o' hkp
    by_cases hlt : k < ρ.length
    · rw [List.getElem?_append_left hlt] at hb
      rw [List.getElem?_append_left (S.len ▸ hlt)] at hao
      exact S.apart k b ao' hb hao hro o' hkp
    · rw [List.getElem?_append_right (Nat.le_of_not_lt hlt)] at hb
      have : b = a := by
        cases hq : k - ρ.length with
        | zero => rw [hq] at hb; simpa using hb.symm
        | succ j => rw [hq] at hb; simp at hb
      subst this
      have := S.keep _ _ hkp
      rw [hn] at this; cases this
  · intro k b ao' hb hao
    by_cases hlt : k < ρ.length
    · rw [List.getElem?_append_left hlt] at hb
      rw [List.getElem?_append_left (S.len ▸ hlt)] at hao
      obtain ⟨o', x, y⟩ := S.obj k b ao' hb hao
      exact ⟨o', hk _ _ x, y.mono pre⟩
    · have hge := Nat.le_of_not_lt hlt
      rw [List.getElem?_append_right hge] at hb
      rw [List.getElem?_append_right (S.len ▸ hge)] at hao
      cases hq : k - ρ.length with
      | zero =>
        rw [hq] at hb; rw [← S.len, hq] at hao
        simp at hb hao; subst hb hao
        exact ⟨o, ho, hr⟩
      | succ j => rw [hq] at hb; simp at hb
  · rcases List.mem_append.mp hm with hm | hm
    · exact ((S.tab t ht).off b r).1 hm
    · obtain ⟨o', e⟩ := (S.tab t ht).live r
      rw [List.mem_singleton.mp hm, hn] at e; cases e
  · intro k b ps body sc q cl P hb hao
    by_cases hlt : k < ρ.length
    · rw [List.getElem?_append_left hlt] at hb
      rw [List.getElem?_append_left (S.len ▸ hlt)] at hao
      exact (S.fns k b ps body sc q cl P hb hao).move (fun o e => hk b o e) (fun t _ o e => hk _ o e) rfl
    · have hge := Nat.le_of_not_lt hlt
      rw [List.getElem?_append_right (S.len ▸ hge)] at hao
      cases hq : k - st.length with
      | zero => rw [hq] at hao; simp at hao; exact (hnt _ _ _ _ _ _ hao).elim
      | succ j => rw [hq] at hao; simp at hao
theorem push (S : SR B ρ st s) {tk : Nat} {o : Obj} {ao : AO} (hf : o.isFreed = false) (hr : OR (ρ ++ [s.heap.objs.size]) ao o) (hnt : ∀ ps body sc q cl P, ao ≠ .fn ps body sc q cl P := by intro _ _ _ _ _ _ e; cases e) (hed : ao = .edict → s.heap.objs.size ≠ sysModules := by intro e; cases e) :
    SR B (ρ ++ [s.heap.objs.size]) (st ++ [ao]) { s with heap := s.heap.push o, toks := tk } :=
  S.alloc (fun _ _ e => Heap.get?_push_of_some _ e) (by
    cases h : s.heap.get? s.heap.objs.size with
    | none => rfl
    | some x => exact absurd (Heap.lt_size h) (Nat.lt_irrefl _)) (Heap.get?_push_size _ hf) hr hnt hed
theorem update (S : SR B ρ st s) {h' : Heap} {tk : Nat} {k : Nat} {a : Addr} {o' : Obj} {ao ao' : AO} (ha : ρ[k]? = some a) (hs : st[k]? = some ao) (hro : ao.isRO = false)
    (hk : ∀ b o, b ≠ a → s.heap.get? b = some o → h'.get? b = some o) (ho : h'.get? a = some o') (hr : OR ρ ao' o') (hro' : ao'.isRO = false := by rfl) (hnt : ∀ ps body sc q cl P, ao' ≠ .fn ps body sc q cl P := by intro _ _ _ _ _ _ e; cases e) (hed : ao' = .edict → a ≠ sysModules := by intro e; cases e) :
    SR B ρ (st.set k ao') { s with heap := h', toks := tk } := by
  have hlt := (List.getElem?_eq_some_iff.mp hs).1
  have uniq : ∀ j b, ρ[j]? = some b → b = a → j = k := fun j b hj e => by
    subst e
    obtain ⟨h1, e1⟩ := List.getElem?_eq_some_iff.mp hj
    obtain ⟨h2, e2⟩ := List.getElem?_eq_some_iff.mp ha
    exact (List.getElem_inj S.nd).mp (e1.trans e2.symm)
  refine ⟨fun b o x => hk b o (fun e => S.apart k a ao ha hs hro o (e ▸ x)) (S.keep b o x), by simp [S.len], S.nd, ?_, ?_, S.gens, S.os, (fun j b hb hao => by
    by_cases e : j = k
    · subst e
      rw [ha] at hb; cases hb
      rw [List.getElem?_set_self hlt] at hao
      exact hed (Option.some.inj hao)
    · rw [List.getElem?_set_ne (Ne.symm e)] at hao
      exact S.eds j b hb hao), (S.tabKeep fun b o hb _ e => hk b o (fun q => hb (q ▸ List.mem_iff_getElem?.mpr ⟨k, ha⟩)) e).1, ?_⟩
  · intro j b ao'' hb hao hro2 o x
    by_cases e : j = k
    · subst e
      rw [ha] at hb; cases hb
      exact S.apart j a ao ha hs hro o x
    · rw [List.getElem?_set_ne (Ne.symm e)] at hao
      exact S.apart j b ao'' hb hao hro2 o x
  · intro j b ao'' hb hao
    by_cases e : j = k
    · subst e
      rw [ha] at hb; cases hb
      rw [List.getElem?_set_self hlt] at hao; cases hao
      exact ⟨o', ho, hr⟩
    · rw [List.getElem?_set_ne (Ne.symm e)] at hao
      obtain ⟨o, x, y⟩ := S.obj j b ao'' hb hao
      exact ⟨o, hk b o (fun q => e (uniq j b hb q)) x, y⟩
  · intro j b ps body sc q cl P hb hao
    by_cases e : j = k
    · subst e
      rw [List.getElem?_set_self hlt] at hao
      exact (hnt _ _ _ _ _ _ (Option.some.inj hao)).elim
    · rw [List.getElem?_set_ne (Ne.symm e)] at hao
      exact (S.fns j b ps body sc q cl P hb hao).move (fun o eo => hk b o (fun q => e (uniq j b hb q)) eo) (S.tabKeep fun b o hb _ e => hk b o (fun q => hb (q ▸ List.mem_iff_getElem?.mpr ⟨k, ha⟩)) e).2 rfl
theorem pinned (S : SR B ρ st s) {a : Addr} {o : Obj} (ho : s.heap.get? a = some o) (hn : a ∉ ρ) (hr : ∀ t ∈ B.tabs, ∀ b, Rsv s.heap t b → b ≠ a) : SR (B.pin a o) ρ st s := by
  refine ⟨fun b o' x => ?_, S.len, S.nd, fun k b ao hb hao hro o' x => ?_, S.obj, S.gens, S.os, S.eds, fun t ht => (S.tab t ht).move (fun _ _ _ e => e) (fun b r => ⟨((S.tab t ht).off b r).1, fun o' x => ?_⟩), fun k b ps body sc q cl P hb hao => (S.fns k b ps body sc q cl P hb hao).move (fun _ e => e) (fun _ _ _ e => e) rfl⟩
  · rcases x with x | x
    · exact S.keep b o' (.inl x)
    · rcases List.mem_cons.mp x with e | x
      · cases e; exact ho
      · exact S.keep b o' (.inr x)
  · rcases x with x | x
    · exact S.apart k b ao hb hao hro o' (.inl x)
    · rcases List.mem_cons.mp x with e | x
      · cases e; exact hn (List.mem_iff_getElem?.mpr ⟨k, hb⟩)
      · exact S.apart k b ao hb hao hro o' (.inr x)
  · rcases x with x | x
    · exact ((S.tab t ht).off b r).2 o' (.inl x)
    · rcases List.mem_cons.mp x with e | x
      · cases e; exact hr t ht _ r rfl
      · exact ((S.tab t ht).off b r).2 o' (.inr x)
theorem unpinned {a : Addr} {o : Obj} (S : SR (B.pin a o) ρ st s) : SR B ρ st s :=
  ⟨fun b o' x => S.keep b o' (x.imp id (List.mem_cons_of_mem _)), S.len, S.nd, fun k b ao hb hao hro o' x => S.apart k b ao hb hao hro o' (x.imp id (List.mem_cons_of_mem _)), S.obj, S.gens, S.os, S.eds, fun t ht => (S.tab t ht).move (fun _ _ _ e => e) (fun b r => ⟨((S.tab t ht).off b r).1, fun o' x => ((S.tab t ht).off b r).2 o' (x.imp id (List.mem_cons_of_mem _))⟩), fun k b ps body sc q cl P hb hao => (S.fns k b ps body sc q cl P hb hao).move (fun _ e => e) (fun _ _ _ e => e) rfl⟩
theorem pinGet {a : Addr} {o : Obj} (S : SR (B.pin a o) ρ st s) : s.heap.get? a = some o := S.keep a o (.inr (List.mem_cons_self ..))
end SR
def AV.ren (f : Nat → Nat) : AV → AV
  | .ref k => .ref (f k)
  | v => v
def AO.ren (f : Nat → Nat) : AO → AO
  | .list xs => .list (xs.map (AV.ren f))
  | .rlist xs => .rlist (xs.map (AV.ren f))
  | .tup xs => .tup (xs.map (AV.ren f))
  | .ns nm m => .ns nm (m.map fun p => p.map (AV.ren f))
  | .cell v => .cell (v.map (AV.ren f))
  | .fn p b s q cl c => .fn p b s q (cl.map fun p => (p.1, f p.2)) c
  | .inst C d => .inst C (f d)
  | .edict => .edict
  | .dview d => .dview (f d)
  | .eset => .eset
  | .set1 i => .set1 i
  | .any => .any
theorem VR.ren {ρ ρ' : List Addr} {f : Nat → Nat} {n : Nat} (hf : ∀ j, ρ'[j]? = if j < n then ρ[f j]? else Option.none) : ∀ {a : AV} {v : Value}, (∀ k, a = .ref k → k < n) → VR ρ (a.ren f) v → VR ρ' a v
  | .none, _, _, x => x
  | .bool _, _, _, x => x
  | .int _, _, _, x => x
  | .str _, _, _, x => x
  | .typ _, _, _, x => x
  | .blt _, _, _, x => x
  | .old _, _, _, x => x
  | .ref k, _, h, ⟨a, e, x⟩ => ⟨a, by rw [hf, if_pos (h k rfl)]; exact e, x⟩
theorem All2.map_left {α β γ : Type} {R : α → β → Prop} {S : γ → β → Prop} {f : γ → α} (h : ∀ a b, R (f a) b → S a b) : ∀ {l : List γ} {m}, All2 R (l.map f) m → All2 S l m
  | [], _, x => by cases x; exact .nil
  | a :: l, _, x => by cases x with | cons y r => exact .cons (h _ _ y) (r.map_left h)
theorem getD_map {α β : Type} (f : α → β) (l : List (Option α)) (i : Nat) : (l.map fun p => p.map f).getD i .none = (l.getD i .none).map f := by
  simp only [List.getD_eq_getElem?_getD, List.getElem?_map]
  cases l[i]? <;> rfl
theorem OptR.none {α β γ : Type} {R : α → β → Prop} {S : γ → β → Prop} {y : Option β} (h : OptR R .none y) : OptR S .none y := by
  cases y with
  | none => trivial
  | some b => exact h.elim
theorem OR.ren {ρ ρ' : List Addr} {f : Nat → Nat} (hv : ∀ a v, VR ρ (a.ren f) v → VR ρ' a v) (hk : ∀ k a, ρ[f k]? = some a → ρ'[k]? = some a) : ∀ {ao : AO} {o : Obj}, OR ρ (ao.ren f) o → OR ρ' ao o
  | .list _, _, ⟨vs, n, e, r⟩ => ⟨vs, n, e, r.map_left hv⟩
  | .rlist _, _, ⟨vs, n, e, e2, r⟩ => ⟨vs, n, e, e2, r.map_left hv⟩
  | .tup _, _, ⟨vs, n, e, r⟩ => ⟨vs, n, e, r.map_left hv⟩
  | .ns nm m, _, ⟨es, ep, e, k, l, r⟩ => ⟨es, ep, e, k, by simpa using l, fun x hx => by
      have := r x hx
      rw [getD_map] at this
      cases h : m.getD (nm.idxOf x) .none with
      | none => rw [h, Option.map_none] at this; exact OptR.none this
      | some a => rw [h, Option.map_some] at this; exact (OptR.some this).elim fun b hb => hb.1 ▸ hv _ _ hb.2⟩
  | .cell v, _, ⟨v', e, r⟩ => ⟨v', e, by
      cases v with
      | none => exact OptR.none r
      | some a => exact (OptR.some r).elim fun b hb => hb.1 ▸ hv _ _ hb.2⟩
  | .fn _ _ _ _ _ _, _, ⟨fd, cs, a0, a00, a1, a2, a3, a4, a5, a6, a7, a8, a9, a10, a11⟩ => ⟨fd, cs, a0, a00, a1, a2, a3, a4, a5, a6, a7, a8, All2.map_left (fun a b x => ⟨x.1, hk _ _ x.2⟩) a9, a10, a11⟩
  | .inst _ _, _, ⟨dx, e, r⟩ => ⟨dx, hk _ _ e, r⟩
  | .edict, _, e => e
  | .dview _, _, ⟨dx, e, r⟩ => ⟨dx, hk _ _ e, r⟩
  | .eset, _, e => e
  | .set1 _, _, e => e
  | .any, _, _ => trivial
theorem AO.isRO_ren (f : Nat → Nat) (ao : AO) : (ao.ren f).isRO = ao.isRO := by cases ao <;> rfl
theorem SR.retract {B : Base} {ρ : List Addr} {st : St} {s : Shared} (S : SR B ρ st s) (f : Nat → Nat) (st2 : St)
    (h1 : ∀ (j : Nat) (ao2 : AO), st2[j]? = some ao2 → st[f j]? = some (ao2.ren f))
    (hinj : ∀ i j, i < st2.length → j < st2.length → f i = f j → i = j) (hout : ∀ j, st2.length ≤ j → st.length ≤ f j) :
    ∃ ρ2 : List Addr, (∀ j, j < st2.length → ρ2[j]? = ρ[f j]?) ∧ SR B ρ2 st2 s ∧ ∀ a v, VR ρ (a.ren f) v → VR ρ2 a v := by
  have some_of : ∀ j, j < st2.length → ∃ a, ρ[f j]? = some a := fun j hj => by
    have := (List.getElem?_eq_some_iff.mp (h1 j _ (List.getElem?_eq_getElem hj))).1
    rw [← S.len] at this
    exact ⟨_, List.getElem?_eq_getElem this⟩
  refine ⟨(List.range st2.length).map fun j => (ρ[f j]?).getD 0, ?_⟩
  have get : ∀ j, j < st2.length → ((List.range st2.length).map fun j => (ρ[f j]?).getD 0)[j]? = ρ[f j]? := fun j hj => by
    obtain ⟨a, ha⟩ := some_of j hj
    simp [List.getElem?_map, hj, ha]
  have hk : ∀ k a, ρ[f k]? = some a → ((List.range st2.length).map fun j => (ρ[f j]?).getD 0)[k]? = some a := fun k a e => by
    by_cases hlt : k < st2.length
    · rw [get k hlt]; exact e
    · have h2 := hout k (Nat.le_of_not_lt hlt)
      have h3 := (List.getElem?_eq_some_iff.mp e).1
      rw [S.len] at h3
      omega
  have hv : ∀ a v, VR ρ (a.ren f) v → VR ((List.range st2.length).map fun j => (ρ[f j]?).getD 0) a v := fun a v x => by
    cases a with
    | ref k => obtain ⟨b, e, r⟩ := x; exact ⟨b, hk _ _ e, r⟩
    | _ => exact x
  have lt_of : ∀ {k : Nat} {a : Addr}, ((List.range st2.length).map fun j => (ρ[f j]?).getD 0)[k]? = some a → k < st2.length := fun {k a} e => by
    have := (List.getElem?_eq_some_iff.mp e).1
    simpa using this
  refine ⟨get, ⟨S.keep, by simp, ?_, ?_, ?_, S.gens, S.os, (fun k a hk' hao => by
    have hlt := lt_of hk'
    rw [get k hlt] at hk'
    exact S.eds (f k) a hk' (h1 k _ hao)), fun t ht => (S.tab t ht).move (fun _ _ _ e => e) (fun b r => ⟨fun hm => ?_, ((S.tab t ht).off b r).2⟩), ?_⟩, hv⟩
  · rw [List.nodup_iff_pairwise_ne, List.pairwise_iff_getElem]
    intro i j hi hj hij e
    have hi' : i < st2.length := by simpa using hi
    have hj' : j < st2.length := by simpa using hj
    obtain ⟨a, ha⟩ := some_of i hi'
    obtain ⟨b, hb⟩ := some_of j hj'
    have ea := (get i hi').trans ha
    have eb := (get j hj').trans hb
    rw [List.getElem?_eq_getElem hi] at ea
    rw [List.getElem?_eq_getElem hj] at eb
    have : a = b := by rw [← Option.some.inj ea, ← Option.some.inj eb]; exact e
    subst this
    obtain ⟨p, p'⟩ := List.getElem?_eq_some_iff.mp ha
    obtain ⟨q, q'⟩ := List.getElem?_eq_some_iff.mp hb
    have := hinj i j hi' hj' ((List.getElem_inj S.nd).mp (p'.trans q'.symm))
    omega
  · intro k a ao hk' hao hro o
    have hlt := lt_of hk'
    rw [get k hlt] at hk'
    exact S.apart (f k) a _ hk' (h1 k ao hao) (by rw [AO.isRO_ren]; exact hro) o
  · intro k a ao hk' hao
    have hlt := lt_of hk'
    rw [get k hlt] at hk'
    obtain ⟨o, x, y⟩ := S.obj (f k) a _ hk' (h1 k ao hao)
    exact ⟨o, x, y.ren hv hk⟩
  · obtain ⟨k, hk'⟩ := List.mem_iff_getElem?.mp hm
    have hlt := lt_of hk'
    rw [get k hlt] at hk'
    exact ((S.tab t ht).off b r).1 (List.mem_iff_getElem?.mpr ⟨_, hk'⟩)
  · intro k a ps body sc q cl P hk' hao
    have hlt := lt_of hk'
    rw [get k hlt] at hk'
    exact S.fns (f k) a ps body sc q _ P hk' (h1 k _ hao)
def AV.lt (n : Nat) : AV → Prop
  | .ref k => k < n
  | _ => True
def AO.lt (n : Nat) : AO → Prop
  | .list xs => ∀ x ∈ xs, x.lt n
  | .rlist xs => ∀ x ∈ xs, x.lt n
  | .tup xs => ∀ x ∈ xs, x.lt n
  | .ns nm m => ∀ x ∈ nm, ∀ v, m.getD (nm.idxOf x) .none = some v → v.lt n
  | .cell v => ∀ x, v = some x → x.lt n
  | .fn _ _ _ _ cl _ => ∀ p ∈ cl, p.2 < n
  | .inst _ d => d < n
  | .edict => True
  | .dview d => d < n
  | .eset => True
  | .set1 _ => True
  | .any => True
theorem VR.lt {ρ : List Addr} : ∀ {a : AV} {v : Value}, VR ρ a v → a.lt ρ.length
  | .none, _, _ => trivial
  | .bool _, _, _ => trivial
  | .int _, _, _ => trivial
  | .str _, _, _ => trivial
  | .typ _, _, _ => trivial
  | .blt _, _, _ => trivial
  | .old _, _, _ => trivial
  | .ref _, _, ⟨_, e, _⟩ => (List.getElem?_eq_some_iff.mp e).1
theorem All2.mem_left {α β : Type} {R : α → β → Prop} : ∀ {l m}, All2 R l m → ∀ a ∈ l, ∃ b, R a b
  | _, _, .nil, _, h => nomatch h
  | _, _, .cons x r, a, h => by
    rcases List.mem_cons.mp h with rfl | h
    · exact ⟨_, x⟩
    · exact r.mem_left a h
theorem OR.lt {ρ : List Addr} : ∀ {ao : AO} {o : Obj}, OR ρ ao o → ao.lt ρ.length
  | .list _, _, ⟨_, _, _, r⟩ => fun x hx => (r.mem_left x hx).elim fun _ h => h.lt
  | .rlist _, _, ⟨_, _, _, _, r⟩ => fun x hx => (r.mem_left x hx).elim fun _ h => h.lt
  | .tup _, _, ⟨_, _, _, r⟩ => fun x hx => (r.mem_left x hx).elim fun _ h => h.lt
  | .ns nm m, _, ⟨_, _, _, _, _, r⟩ => fun x hx v e => by
      have := r x hx
      rw [e] at this
      obtain ⟨b, _, hb⟩ := OptR.some this
      exact hb.lt
  | .cell v, _, ⟨_, _, r⟩ => fun x hx => by
      subst hx
      obtain ⟨b, _, hb⟩ := OptR.some r
      exact hb.lt
  | .fn _ _ _ _ _ _, _, ⟨_, _, _, _, _, _, _, _, _, _, _, _, r, _, _⟩ => fun p hp => (r.mem_left p hp).elim fun _ h => (List.getElem?_eq_some_iff.mp h.2).1
  | .inst _ _, _, ⟨_, e, _⟩ => (List.getElem?_eq_some_iff.mp e).1
  | .edict, _, _ => trivial
  | .dview _, _, ⟨_, e, _⟩ => (List.getElem?_eq_some_iff.mp e).1
  | .eset, _, _ => trivial
  | .set1 _, _, _ => trivial
  | .any, _, _ => trivial
def WF (st : St) : Prop := ∀ (k : Nat) (ao : AO), st[k]? = some ao → ao.lt st.length
theorem SR.wf {B : Base} {ρ : List Addr} {st : St} {s : Shared} (S : SR B ρ st s) : WF st := fun k ao h => by
  obtain ⟨a, o, _, _, r⟩ := S.addr h
  rw [← S.len]; exact r.lt
theorem VR.cut {ρ ρ' : List Addr} {n : Nat} (hρ : ∀ k, k < n → ρ'[k]? = ρ[k]?) : ∀ {a : AV} {v : Value}, a.lt n → VR ρ a v → VR ρ' a v
  | .none, _, _, x => x
  | .bool _, _, _, x => x
  | .int _, _, _, x => x
  | .str _, _, _, x => x
  | .typ _, _, _, x => x
  | .blt _, _, _, x => x
  | .old _, _, _, x => x
  | .ref k, _, h, ⟨a, e, r⟩ => ⟨a, (hρ k h).trans e, r⟩
theorem All2.cutL {α β : Type} {R S : α → β → Prop} {P : α → Prop} (h : ∀ a b, P a → R a b → S a b) : ∀ {l : List α} {m : List β}, (∀ a ∈ l, P a) → All2 R l m → All2 S l m
  | _, _, _, .nil => .nil
  | _, _, hp, .cons x r => .cons (h _ _ (hp _ (List.mem_cons_self ..)) x) (r.cutL h fun a ha => hp a (List.mem_cons_of_mem _ ha))
theorem OR.cut {ρ ρ' : List Addr} {n : Nat} (hρ : ∀ k, k < n → ρ'[k]? = ρ[k]?) : ∀ {ao : AO} {o : Obj}, ao.lt n → OR ρ ao o → OR ρ' ao o
  | .list _, _, hl, ⟨vs, m, e, r⟩ => ⟨vs, m, e, r.cutL (fun _ _ => VR.cut hρ) hl⟩
  | .rlist _, _, hl, ⟨vs, m, e, e2, r⟩ => ⟨vs, m, e, e2, r.cutL (fun _ _ => VR.cut hρ) hl⟩
  | .tup _, _, hl, ⟨vs, m, e, r⟩ => ⟨vs, m, e, r.cutL (fun _ _ => VR.cut hρ) hl⟩
  | .ns nm m, _, hl, ⟨es, ep, e, k, l, r⟩ => ⟨es, ep, e, k, l, fun x hx => by
      have := r x hx
      cases h : m.getD (nm.idxOf x) .none with
      | none => rw [h] at this; exact OptR.none this
      | some a => rw [h] at this; exact (OptR.some this).elim fun b hb => hb.1 ▸ VR.cut hρ (hl x hx a h) hb.2⟩
  | .cell v, _, hl, ⟨v', e, r⟩ => ⟨v', e, by
      cases v with
      | none => exact OptR.none r
      | some a => exact (OptR.some r).elim fun b hb => hb.1 ▸ VR.cut hρ (hl a rfl) hb.2⟩
  | .fn _ _ _ _ _ _, _, hl, ⟨fd, cs, a0, a00, a1, a2, a3, a4, a5, a6, a7, a8, a9, a10, a11⟩ => ⟨fd, cs, a0, a00, a1, a2, a3, a4, a5, a6, a7, a8, All2.cutL (P := fun p : Str × Nat => p.2 < n) (fun a b hp x => ⟨x.1, (hρ _ hp).trans x.2⟩) (fun p hp => hl p hp) a9, a10, a11⟩
  | .inst _ _, _, hl, ⟨dx, e, r⟩ => ⟨dx, (hρ _ hl).trans e, r⟩
  | .edict, _, _, e => e
  | .dview _, _, hl, ⟨dx, e, r⟩ => ⟨dx, (hρ _ hl).trans e, r⟩
  | .eset, _, _, e => e
  | .set1 _, _, _, e => e
  | .any, _, _, _ => trivial
theorem SR.trim {B : Base} {ρ : List Addr} {st : St} {s : Shared} (S : SR B ρ st s) (f : Nat → Nat) (n : Nat) (st2 : St) (hn : n ≤ st2.length) (hf : ∀ k, k < n → f k = k)
    (h1 : ∀ (j : Nat) (ao2 : AO), st2[j]? = some ao2 → st[f j]? = some (ao2.ren f) ∨ (j < n ∧ st[j]? = some ao2 ∧ ao2.lt n))
    (hinj : ∀ i j, i < st2.length → j < st2.length → f i = f j → i = j) (hout : ∀ j, st2.length ≤ j → st.length ≤ f j) :
    ∃ ρ2 : List Addr, (∀ j, j < st2.length → ρ2[j]? = ρ[f j]?) ∧ SR B ρ2 st2 s ∧ ∀ a v, VR ρ (a.ren f) v → VR ρ2 a v := by
  have h0 : ∀ (j : Nat) (ao2 : AO), st2[j]? = some ao2 → ∃ ao, st[f j]? = some ao ∧ ao.isRO = ao2.isRO := fun j ao2 e => by
    rcases h1 j ao2 e with h | ⟨a, b, c⟩
    · exact ⟨_, h, AO.isRO_ren _ _⟩
    · rw [hf j a]; exact ⟨_, b, rfl⟩
  have some_of : ∀ j, j < st2.length → ∃ a, ρ[f j]? = some a := fun j hj => by
    obtain ⟨ao, h, _⟩ := h0 j _ (List.getElem?_eq_getElem hj)
    have := (List.getElem?_eq_some_iff.mp h).1
    rw [← S.len] at this
    exact ⟨_, List.getElem?_eq_getElem this⟩
  refine ⟨(List.range st2.length).map fun j => (ρ[f j]?).getD 0, ?_⟩
  have get : ∀ j, j < st2.length → ((List.range st2.length).map fun j => (ρ[f j]?).getD 0)[j]? = ρ[f j]? := fun j hj => by
    obtain ⟨a, ha⟩ := some_of j hj
    simp [List.getElem?_map, hj, ha]
  have hk : ∀ k a, ρ[f k]? = some a → ((List.range st2.length).map fun j => (ρ[f j]?).getD 0)[k]? = some a := fun k a e => by
    by_cases hlt : k < st2.length
    · rw [get k hlt]; exact e
    · have h2 := hout k (Nat.le_of_not_lt hlt)
      have h3 := (List.getElem?_eq_some_iff.mp e).1
      rw [S.len] at h3
      omega
  have hv : ∀ a v, VR ρ (a.ren f) v → VR ((List.range st2.length).map fun j => (ρ[f j]?).getD 0) a v := fun a v x => by
    cases a with
    | ref k => obtain ⟨b, e, r⟩ := x; exact ⟨b, hk _ _ e, r⟩
    | _ => exact x
  have lt_of : ∀ {k : Nat} {a : Addr}, ((List.range st2.length).map fun j => (ρ[f j]?).getD 0)[k]? = some a → k < st2.length := fun {k a} e => by
    have := (List.getElem?_eq_some_iff.mp e).1
    simpa using this
  refine ⟨get, ⟨S.keep, by simp, ?_, ?_, ?_, S.gens, S.os, (fun k a hk' hao => by
    have hlt := lt_of hk'
    rw [get k hlt] at hk'
    rcases h1 k _ hao with h | ⟨q1, q2, q3⟩
    · exact S.eds (f k) a hk' h
    · rw [hf k q1] at hk'
      exact S.eds k a hk' q2), fun t ht => (S.tab t ht).move (fun _ _ _ e => e) (fun b r => ⟨fun hm => ?_, ((S.tab t ht).off b r).2⟩), ?_⟩, hv⟩
  · rw [List.nodup_iff_pairwise_ne, List.pairwise_iff_getElem]
    intro i j hi hj hij e
    have hi' : i < st2.length := by simpa using hi
    have hj' : j < st2.length := by simpa using hj
    obtain ⟨a, ha⟩ := some_of i hi'
    obtain ⟨b, hb⟩ := some_of j hj'
    have ea := (get i hi').trans ha
    have eb := (get j hj').trans hb
    rw [List.getElem?_eq_getElem hi] at ea
    rw [List.getElem?_eq_getElem hj] at eb
    have : a = b := by rw [← Option.some.inj ea, ← Option.some.inj eb]; exact e
    subst this
    obtain ⟨p, p'⟩ := List.getElem?_eq_some_iff.mp ha
    obtain ⟨q, q'⟩ := List.getElem?_eq_some_iff.mp hb
    have := hinj i j hi' hj' ((List.getElem_inj S.nd).mp (p'.trans q'.symm))
    omega
  · intro k a ao hk' hao hro o
    have hlt := lt_of hk'
    rw [get k hlt] at hk'
    obtain ⟨ao1, q1, q2⟩ := h0 k ao hao
    exact S.apart (f k) a _ hk' q1 (q2.trans hro) o
  · intro k a ao hk' hao
    have hlt := lt_of hk'
    rw [get k hlt] at hk'
    rcases h1 k ao hao with h | ⟨q1, q2, q3⟩
    · obtain ⟨o, x, y⟩ := S.obj (f k) a _ hk' h
      exact ⟨o, x, y.ren hv hk⟩
    · rw [hf k q1] at hk'
      obtain ⟨o, x, y⟩ := S.obj k a _ hk' q2
      exact ⟨o, x, y.cut (fun i hi => by rw [get i (by omega), hf i hi]) q3⟩
  · obtain ⟨k, hk'⟩ := List.mem_iff_getElem?.mp hm
    have hlt := lt_of hk'
    rw [get k hlt] at hk'
    exact ((S.tab t ht).off b r).1 (List.mem_iff_getElem?.mpr ⟨_, hk'⟩)
  · intro k a ps body sc q cl P hk' hao
    have hlt := lt_of hk'
    rw [get k hlt] at hk'
    rcases h1 k _ hao with h | ⟨q1, q2, q3⟩
    · exact S.fns (f k) a ps body sc q _ P hk' h
    · rw [hf k q1] at hk'
      exact S.fns k a ps body sc q _ P hk' q2
def AV.flat : AV → Bool
  | .ref _ => false
  | _ => true
theorem AV.ren_flat {v : AV} (h : v.flat = true) (f : Nat → Nat) : v.ren f = v := by cases v <;> first | rfl | cases h
theorem map_flat {f : Nat → Nat} : ∀ {xs : List AV}, xs.all AV.flat = true → xs.map (AV.ren f) = xs
  | [], _ => rfl
  | x :: xs, h => by
    rw [List.all_cons, Bool.and_eq_true] at h
    rw [List.map_cons, AV.ren_flat h.1, map_flat h.2]
def AO.flat : AO → Bool
  | .list xs => xs.all AV.flat
  | .tup xs => xs.all AV.flat
  | _ => false
theorem AO.ren_flat {v : AO} (h : v.flat = true) (f : Nat → Nat) : v.ren f = v := by
  cases v <;> first | cases h | skip
  · exact congrArg AO.list (map_flat h)
  · exact congrArg AO.tup (map_flat h)
abbrev NoE : Value → Shared → Prop := fun _ _ => False
structure Room (A : Around) (d : Nat) : Prop where
  handled : A.handled = .none
  depth : A.depth + d < 1000
  units : A.units + 8 * d < 9800
theorem Room.in1 {A : Around} {d : Nat} (h : Room A (d + 1)) : Room A.in1 d := ⟨h.handled, by have := h.depth; show A.depth + d < 1000; omega, by have := h.units; show A.units + 1 + 8 * d < 9800; omega⟩
theorem Room.le {A : Around} {d d' : Nat} (h : Room A d) (hd : d' ≤ d) : Room A d' := ⟨h.handled, by have := h.depth; omega, by have := h.units; omega⟩
theorem Room.deeper {A : Around} {d : Nat} {env : Env} (h : Room A (d + 1)) : Room (A.deeper env) d := ⟨h.handled, by have := h.depth; show A.depth + 1 + d < 1000; omega, by have := h.units; show A.units + 3 + 8 * d < 9800; omega⟩
structure Sc where
  scope : Scope
  nm : List Str
  cn : List Str
  G : List (Str × AV)
  qual : Str
structure AEnv where
  fr : Nat
  cells : List Nat
  code : Value
structure ER (Γ : Sc) (ρ : List Addr) (ae : AEnv) (env : Env) : Prop where
  scope : env.scope = Γ.scope
  kind : Γ.scope.kind = .function
  loc : ρ[ae.fr]? = some env.locals
  cells : ∀ (x : Str) (k : Nat), x ∈ Γ.cn → ae.cells[Γ.cn.idxOf x]? = some k → ∃ c, ρ[k]? = some c ∧ env.cells.lookup x = some c
  glob : env.globals = mainGlobals
  blt : env.builtins = builtinsNs
  qual : env.qual = Γ.qual
  code : ae.code = .none ∨ env.code = ae.code
theorem ER.mono {Γ : Sc} {ρ ρ' : List Addr} {ae : AEnv} {env : Env} (h : ρ <+: ρ') (x : ER Γ ρ ae env) : ER Γ ρ' ae env :=
  ⟨x.scope, x.kind, pre_get h x.loc, fun y k hy e => let ⟨c, a, b⟩ := x.cells y k hy e; ⟨c, pre_get h a, b⟩, x.glob, x.blt, x.qual, x.code⟩
structure GoodB (G : List (Str × AV)) (mg mb : Str → Option Value) (X : Heap → List TabD → Prop) (B : Base) : Prop where
  g : B.g.Ns mainGlobals mg
  b : B.g.Ns builtinsNs mb
  nolimit : B.g.NoLimit
  nodigits : ∃ mc, B.g.Ns cStatics mc ∧ mc "sys.int_max_str_digits" = .none
  names : ∀ x v, G.lookup x = some v → ∃ v', VR [] v v' ∧ (mg x = some v' ∨ (mg x = .none ∧ mb x = some v'))
  x : X B.g B.tabs
theorem GoodB.pin {G : List (Str × AV)} {mg mb : Str → Option Value} {X : Heap → List TabD → Prop} {B : Base} (h : GoodB G mg mb X B) (a : Addr) (o : Obj) : GoodB G mg mb X (B.pin a o) := ⟨h.g, h.b, h.nolimit, h.nodigits, h.names, h.x⟩
theorem SR.g {B : Base} {ρ : List Addr} {st : St} {s : Shared} (S : SR B ρ st s) : ∀ b o, B.g.get? b = some o → s.heap.get? b = some o := fun b o e => S.keep b o (.inl e)
theorem low_of {G : List (Str × AV)} {mg mb : Str → Option Value} {X : Heap → List TabD → Prop} {B : Base} {ρ : List Addr} {st : St} {s : Shared} (hB : GoodB G mg mb X B) (S : SR B ρ st s) : sysModules < s.heap.objs.size := modules_low (hB.nolimit.keeps S.g)
def Post (B : Base) (ρ : List Addr) (r : AV × St) : Value → Shared → Prop := fun v s' => ∃ ρ', ρ <+: ρ' ∧ SR B ρ' r.2 s' ∧ VR ρ' r.1 v
def PostB (B : Base) (ρ : List Addr) (r : Bool × St) : Bool → Shared → Prop := fun v s' => ∃ ρ', ρ <+: ρ' ∧ SR B ρ' r.2 s' ∧ v = r.1
def PostU (B : Base) (ρ : List Addr) (st : St) : Unit → Shared → Prop := fun _ s' => ∃ ρ', ρ <+: ρ' ∧ SR B ρ' st s'
def PostL (B : Base) (ρ : List Addr) (r : List AV × St) : List Value → Shared → Prop := fun v s' => ∃ ρ', ρ <+: ρ' ∧ SR B ρ' r.2 s' ∧ All2 (VR ρ') r.1 v
theorem Post.here {B : Base} {ρ : List Addr} {r : AV × St} {v : Value} {s : Shared} (S : SR B ρ r.2 s) (h : VR ρ r.1 v) : Post B ρ r v s := ⟨ρ, List.prefix_refl _, S, h⟩
theorem Post.up {B : Base} {ρ ρ' : List Addr} {r : AV × St} {v : Value} {s : Shared} (h : ρ <+: ρ') (p : Post B ρ' r v s) : Post B ρ r v s := let ⟨q, a, b, c⟩ := p; ⟨q, h.trans a, b, c⟩
theorem PostB.here {B : Base} {ρ : List Addr} {r : Bool × St} {v : Bool} {s : Shared} (S : SR B ρ r.2 s) (h : v = r.1) : PostB B ρ r v s := ⟨ρ, List.prefix_refl _, S, h⟩
theorem PostB.up {B : Base} {ρ ρ' : List Addr} {r : Bool × St} {v : Bool} {s : Shared} (h : ρ <+: ρ') (p : PostB B ρ' r v s) : PostB B ρ r v s := let ⟨q, a, b, c⟩ := p; ⟨q, h.trans a, b, c⟩
theorem PostU.here {B : Base} {ρ : List Addr} {st : St} {s : Shared} {u : Unit} (S : SR B ρ st s) : PostU B ρ st u s := ⟨ρ, List.prefix_refl _, S⟩
theorem PostU.up {B : Base} {ρ ρ' : List Addr} {st : St} {s : Shared} {u : Unit} (h : ρ <+: ρ') (p : PostU B ρ' st u s) : PostU B ρ st u s := let ⟨q, a, b⟩ := p; ⟨q, h.trans a, b⟩
theorem PostL.here {B : Base} {ρ : List Addr} {r : List AV × St} {v : List Value} {s : Shared} (S : SR B ρ r.2 s) (h : All2 (VR ρ) r.1 v) : PostL B ρ r v s := ⟨ρ, List.prefix_refl _, S, h⟩
theorem PostL.up {B : Base} {ρ ρ' : List Addr} {r : List AV × St} {v : List Value} {s : Shared} (h : ρ <+: ρ') (p : PostL B ρ' r v s) : PostL B ρ r v s := let ⟨q, a, b, c⟩ := p; ⟨q, h.trans a, b, c⟩
abbrev Act (α : Type) := AEnv → St → Option (α × St)
section
variable (prog : Program) (w : World) (G : List (Str × AV)) (mg mb : Str → Option Value) (X : Heap → List TabD → Prop)
def SoundE (Γ : Sc) (d : Nat) (e : Expr) (a : Act AV) : Prop :=
  ∀ (B : Base) (ae : AEnv) (st : St) (r : AV × St), GoodB G mg mb X B → a ae st = some r → ∀ (ρ : List Addr) (env : Env) (s : Shared) (A : Around), Room A d → ER Γ ρ ae env → SR B ρ st s →
    wpAny (model prog w) A (eval e env) (Post B ρ r) NoE s
def SoundT (Γ : Sc) (d : Nat) (e : Expr) (a : Act Bool) : Prop :=
  ∀ (B : Base) (ae : AEnv) (st : St) (r : Bool × St), GoodB G mg mb X B → a ae st = some r → ∀ (ρ : List Addr) (env : Env) (s : Shared) (A : Around), Room A d → ER Γ ρ ae env → SR B ρ st s →
    wpAny (model prog w) A (isTrue e env (eval e env)) (PostB B ρ r) NoE s
end
def bVal (v : AV) : Act AV := fun _ st => some (v, st)
def bLoc (nm : List Str) (i : Nat) : Act AV := fun ae st => match st[ae.fr]? with
  | some (.ns nm' m) => if nm' = nm then (match m[i]? with | some (some v) => some (v, st) | _ => .none) else .none
  | _ => .none
def bCell (j : Nat) : Act AV := fun ae st => match ae.cells[j]? with
  | some k => (match st[k]? with | some (.cell (some v)) => some (v, st) | _ => .none)
  | .none => .none
section
variable {prog : Program} {w : World} {G : List (Str × AV)} {mg mb : Str → Option Value} {X : Heap → List TabD → Prop} {Γ : Sc} {d : Nat}
theorem ER.kindOf {ρ : List Addr} {ae : AEnv} {env : Env} (x : ER Γ ρ ae env) (n : Str) : env.kindOf n = Γ.scope.names.lookup n := by
  unfold Env.kindOf
  rw [x.scope]
theorem sound_const {c : Const} {k : Nat} {pos : Pos} {v : AV} (h : (match c with | .none => some AV.none | .bool b => some (.bool b) | .int i => some (.int i) | .str x => some (.str x) | _ => .none) = some v) :
    SoundE prog w G mg mb X Γ d (.Constant c k pos) (bVal v) := by
  intro B ae st r hB hr ρ env s A hA hE S
  cases hr
  cases c with
  | none => cases h; exact wpAny_Constant_none (Post.here S rfl)
  | bool b => cases h; exact wpAny_Constant_bool (Post.here S rfl)
  | int i => cases h; exact wpAny_Constant_int (Post.here S.toks ⟨_, rfl⟩)
  | str x => cases h; exact wpAny_Constant_str (Post.here S.toks ⟨_, rfl⟩)
  | _ => cases h
theorem idx_get {x : Str} {l : List Str} (h : x ∈ l) : l[l.idxOf x]? = some x := by
  have := List.idxOf_lt_length_of_mem h
  rw [List.getElem?_eq_getElem this]
  exact congrArg some (List.getElem_idxOf this)
theorem ns_of {nm : List Str} {m : List (Option AV)} {o : Obj} {ρ : List Addr} {h : Heap} {a : Addr} (ho : h.get? a = some o) (r : OR ρ (.ns nm m) o) :
    ∃ mm : Str → Option Value, h.Ns a mm ∧ m.length = nm.length ∧ ∀ x, x ∈ nm → OptR (VR ρ) (m.getD (nm.idxOf x) .none) (mm x) := by
  obtain ⟨es, ep, e, k, l, q⟩ := r
  exact ⟨nsFind es, ⟨o, es, ep, ho, e, k, fun _ => rfl⟩, l, q⟩
theorem sound_loc {x : Str} {pos : Pos} (hx : Γ.scope.names.lookup x = some .local) (hm : x ∈ Γ.nm) (hd : (x == ("__debug__" : Str)) = false) :
    SoundE prog w G mg mb X Γ d (.Name x pos) (bLoc Γ.nm (Γ.nm.idxOf x)) := by
  intro B ae st r hB hr ρ env s A hA hE S
  unfold bLoc at hr
  split at hr
  · rename_i nm' m hst
    split at hr
    · rename_i hnm
      subst hnm
      split at hr
      · rename_i v hv
        cases hr
        obtain ⟨a, o, ha, ho, hor⟩ := S.addr hst
        have : a = env.locals := by have := hE.loc; rw [ha] at this; exact Option.some.inj this
        subst this
        obtain ⟨mm, hns, hl, hall⟩ := ns_of ho hor
        have h1 := hall x hm
        rw [List.getD_eq_getElem?_getD, hv] at h1
        obtain ⟨v', e', hv'⟩ := OptR.some h1
        exact wpAny_Name (wpAny_loadName_local (hE.scope ▸ hE.kind) ((hE.kindOf x).trans hx) hns e' (Post.here S hv')) hd
      · cases hr
    · cases hr
  · cases hr
theorem cell_of {v : Option AV} {o : Obj} {ρ : List Addr} {h : Heap} {a : Addr} (ho : h.get? a = some o) (r : OR ρ (.cell v) o) : ∃ v', h.IsCell a v' ∧ OptR (VR ρ) v v' := by
  obtain ⟨v', e, q⟩ := r
  exact ⟨v', ⟨o, ho, e⟩, q⟩
theorem sound_cell {x : Str} {pos : Pos} (hx : Γ.scope.names.lookup x = some .cell ∨ Γ.scope.names.lookup x = some .free) (hm : x ∈ Γ.cn) (hd : (x == ("__debug__" : Str)) = false) (hd2 : (x == ("__classdict__" : Str)) = false) :
    SoundE prog w G mg mb X Γ d (.Name x pos) (bCell (Γ.cn.idxOf x)) := by
  intro B ae st r hB hr ρ env s A hA hE S
  unfold bCell at hr
  split at hr
  · rename_i k hk
    split at hr
    · rename_i v hst
      cases hr
      obtain ⟨c, hc, hl⟩ := hE.cells x k hm hk
      obtain ⟨o, ho, hor⟩ := S.obj k c _ hc hst
      obtain ⟨v', hcell, hv⟩ := cell_of ho hor
      obtain ⟨v'', e', hv'⟩ := OptR.some hv
      subst e'
      rcases hx with hx | hx
      · exact wpAny_Name (wpAny_loadName_cell (hE.scope ▸ hE.kind) ((hE.kindOf x).trans hx) hl hcell (Post.here S hv')) hd
      · exact wpAny_Name (wpAny_loadName_free (hE.scope ▸ hE.kind) ((hE.kindOf x).trans hx) hl hcell (Post.here S hv') hd2) hd
    · cases hr
  · cases hr
theorem VR.any {v : AV} {v' : Value} (h : VR [] v v') (ρ : List Addr) : VR ρ v v' := h.mono (List.nil_prefix)
theorem sound_glob {x : Str} {pos : Pos} {v : AV} (hx : Γ.scope.names.lookup x = some .globalImplicit) (hg : G.lookup x = some v) (hd : (x == ("__debug__" : Str)) = false) :
    SoundE prog w G mg mb X Γ d (.Name x pos) (bVal v) := by
  intro B ae st r hB hr ρ env s A hA hE S
  cases hr
  obtain ⟨v', hv, hm⟩ := hB.names x v hg
  refine Name_function_global (hE.scope ▸ hE.kind) ((hE.kindOf x).trans hx) ?_ hd
  have g1 : s.heap.Ns env.globals mg := hE.glob ▸ hB.g.keeps S.g
  have b1 : s.heap.Ns env.builtins mb := hE.blt ▸ hB.b.keeps S.g
  rcases hm with h | ⟨h1, h2⟩
  · exact loadGlobal_global g1 h (Post.here S (hv.any ρ))
  · exact loadGlobal_builtin g1 h1 b1 h2 (Post.here S (hv.any ρ))
end
def small (a : Int) : Bool := decide (-(2 ^ 64) < a ∧ a < 2 ^ 64)
def abin (op : Operator) (x y : AV) (st : St) : Option (AV × St) := match op, x, y with
  | .Add, .int a, .int b => some (.int (a + b), st)
  | .Sub, .int a, .int b => some (.int (a - b), st)
  | .Mult, .int a, .int b => if (small a || small b) = true then some (.int (a * b), st) else .none
  | .FloorDiv, .int a, .int b => if b ≠ 0 ∧ b.natAbs < 1073741824 then some (.int (a.fdiv b), st) else .none
  | .Mod, .int a, .int b => if b ≠ 0 then some (.int (a.fmod b), st) else .none
  | .BitXor, .int a, .int b => some (.int (Builtin.bitXor a b), st)
  | .BitAnd, .int a, .int b => some (.int (Builtin.bitAnd a b), st)
  | .RShift, .int a, .int b => if 0 ≤ b then some (.int (a.fdiv (2 ^ b.toNat)), st) else .none
  | .LShift, .int a, .int b => if 0 ≤ b ∧ (Builtin.Int.intBits a : Int) + b ≤ 2 ^ 27 then some (.int (a * 2 ^ b.toNat), st) else .none
  | .Pow, .int a, .int b => if 0 ≤ b ∧ (Builtin.Int.intBits a : Int) * b ≤ 2 ^ 27 then some (.int (a ^ b.toNat), st) else .none
  | .Add, .str a, .str b => if a.length + b.length ≤ 1000 then some (.str (a ++ b), st) else .none
  | .Add, .ref i, .ref j => (match st[i]?, st[j]? with
    | some (.list xs), some (.list ys) => if xs.length + ys.length ≤ 1000 then some (.ref st.length, st ++ [.list (xs ++ ys)]) else .none
    | _, _ => .none)
  | .Mult, .ref i, .int n => (match st[i]? with
    | some (.list xs) => if n < 2 ^ 62 ∧ -(2 ^ 62) < n ∧ xs.length * n.toNat ≤ 1000 then some (.ref st.length, st ++ [.list (List.replicate n.toNat xs).flatten]) else .none
    | _ => .none)
  | _, _, _ => .none
section
variable {prog : Program} {w : World} {A : Around} {s : Shared} {B : Base} {ρ : List Addr} {st : St}
theorem small_bits {a : Int} (h : small a = true) : Builtin.Int.intBits a ≤ 64 := by
  have := of_decide_eq_true h
  exact intBits_le_64 this.1 this.2
theorem list_of {xs : List AV} {o : Obj} {a : Addr} {h : Heap} (ho : h.get? a = some o) (r : OR ρ (.list xs) o) : ∃ vs n, IsL h a vs.toArray n ∧ All2 (VR ρ) xs vs := by
  obtain ⟨vs, n, e, q⟩ := r
  subst e
  exact ⟨vs, n, ho, q⟩
theorem SR.pushList (S : SR B ρ st s) {vs : List Value} {xs : List AV} {n : Nat} (hv : All2 (VR ρ) xs vs) {tk : Nat} :
    Post B ρ (.ref st.length, st ++ [.list xs]) (.ref s.heap.objs.size) { s with heap := s.heap.push { cls := .type "list", data := .seq vs.toArray n }, toks := tk } := by
  have hp : ρ <+: ρ ++ [s.heap.objs.size] := List.prefix_append _ _
  refine ⟨_, hp, S.push rfl ⟨vs, n, rfl, hv.mono fun _ _ => VR.mono hp⟩, s.heap.objs.size, ?_, rfl⟩
  rw [← S.len]; simp
theorem SR.pushTup (S : SR B ρ st s) {vs : List Value} {xs : List AV} {n : Nat} (hv : All2 (VR ρ) xs vs) {tk : Nat} :
    Post B ρ (.ref st.length, st ++ [.tup xs]) (.ref s.heap.objs.size) { s with heap := s.heap.push { cls := .type "tuple", data := .seq vs.toArray n }, toks := tk } := by
  have hp : ρ <+: ρ ++ [s.heap.objs.size] := List.prefix_append _ _
  refine ⟨_, hp, S.push rfl ⟨vs, n, rfl, hv.mono fun _ _ => VR.mono hp⟩, s.heap.objs.size, ?_, rfl⟩
  rw [← S.len]; simp
theorem All2.replicate {R : AV → Value → Prop} {xs vs} (h : All2 R xs vs) : ∀ n, All2 R (List.replicate n xs).flatten (List.replicate n vs).flatten
  | 0 => .nil
  | n + 1 => by simp only [List.replicate_succ, List.flatten_cons]; exact h.append (h.replicate n)
theorem foldl_rep (vs : List Value) : ∀ (n : Nat) (acc : List Value), List.foldl (fun (x1 x2 : Array Value) => x1 ++ x2) acc.toArray (List.replicate n vs.toArray) = (acc ++ (List.replicate n vs).flatten).toArray
  | 0, acc => by simp
  | n + 1, acc => by
    simp only [List.replicate_succ, List.foldl_cons, List.flatten_cons, List.append_toArray]
    rw [foldl_rep vs n (acc ++ vs), List.append_assoc]
theorem mul_list_base {l : Addr} {items : Array Value} {k : Nat} {x : Int} {u : Tok} {E : Value → Shared → Prop} {Q : Value → Shared → Prop} (hl : IsL s.heap l items k)
    (hlo : -(2 ^ 63 : Int) ≤ x) (hhi : x < 2 ^ 63) (hsz : items.size * x.toNat ≤ 2 ^ 24)
    (h : Q (.ref s.heap.objs.size) { s with heap := s.heap.push { cls := .type "list", data := .seq (List.foldl (fun x1 x2 => x1 ++ x2) #[] (List.replicate (if items.isEmpty = true then 0 else x.toNat) items)) } }) :
    wpAny (model prog w) A (binaryOp .Mult (.ref l) (.int x u)) Q E s :=
  wpAny_binaryOp_repeat_ref (T := "list") (U := "int") (by decide) ⟨_, hl, rfl⟩ (fun s' => typeIs_int s' x u) noFill_list_mul F.fills_int_mul F.slot_int_rmul repeat_list F.slot_int_index.lookup
    (call_meets F.slot_int_rmul (typeIs_int s x u) F.entry_int_rmul (F.args_int_rmul_2 _ _) (int___rmul___int_list x u l items k)
      ⟨hl, rfl, ⟨_, hl, rfl⟩, call_meets F.slot_list_mul ⟨_, hl, rfl⟩ F.entry_list_mul (F.args_list_mul_2 _ _)
        (AutoListH.list___mul___list_int_3 l items k x u (by simp [Builtin.List.listFitsIndex]; omega) (by omega) (by simp [Builtin.List.listTooLong, sizeLine]; omega)) ⟨hl, h⟩⟩)
theorem abin_ok {op : Operator} {x y : AV} {r : AV × St} (h : abin op x y st = some r) (S : SR B ρ st s) {v u : Value} (hv : VR ρ x v) (hu : VR ρ y u) :
    wpAny (model prog w) A (binaryOp op v u) (Post B ρ r) NoE s := by
  unfold abin at h
  split at h
  · obtain ⟨t, rfl⟩ := hv; obtain ⟨t', rfl⟩ := hu; cases h; exact add_int (Post.here S.toks ⟨_, rfl⟩)
  · obtain ⟨t, rfl⟩ := hv; obtain ⟨t', rfl⟩ := hu; cases h; exact sub_int (Post.here S.toks ⟨_, rfl⟩)
  · obtain ⟨t, rfl⟩ := hv; obtain ⟨t', rfl⟩ := hu
    split at h
    · rename_i hs
      cases h
      refine mul_int (Post.here S.toks ⟨_, rfl⟩) ?_
      rcases Bool.or_eq_true .. ▸ hs with hs | hs
      · exact IntMulOk.of_left (small_bits hs)
      · exact IntMulOk.of_right (small_bits hs)
    · cases h
  · obtain ⟨t, rfl⟩ := hv; obtain ⟨t', rfl⟩ := hu
    split at h
    · rename_i hs
      cases h
      exact floordiv_int hs.1 (Post.here S.toks ⟨_, rfl⟩) (Or.inl (PyProof.noPylong_small hs.2))
    · cases h
  · obtain ⟨t, rfl⟩ := hv; obtain ⟨t', rfl⟩ := hu
    split at h
    · rename_i hs
      cases h
      exact PyProof.Rows.mod_int hs (Post.here S.toks ⟨_, rfl⟩)
    · cases h
  · obtain ⟨t, rfl⟩ := hv; obtain ⟨t', rfl⟩ := hu; cases h; exact xor_int (Post.here S.toks ⟨_, rfl⟩)
  · obtain ⟨t, rfl⟩ := hv; obtain ⟨t', rfl⟩ := hu; cases h; exact and_int (Post.here S.toks ⟨_, rfl⟩)
  · obtain ⟨t, rfl⟩ := hv; obtain ⟨t', rfl⟩ := hu
    split at h
    · rename_i hs
      cases h
      exact rshift_int hs (Post.here S.toks ⟨_, rfl⟩)
    · cases h
  · obtain ⟨t, rfl⟩ := hv; obtain ⟨t', rfl⟩ := hu
    split at h
    · rename_i hs
      cases h
      exact lshift_int hs.1 hs.2 (Post.here S.toks ⟨_, rfl⟩)
    · cases h
  · obtain ⟨t, rfl⟩ := hv; obtain ⟨t', rfl⟩ := hu
    split at h
    · rename_i hs
      cases h
      exact pow_int hs.1 hs.2 (Post.here S.toks ⟨_, rfl⟩)
    · cases h
  · obtain ⟨t, rfl⟩ := hv; obtain ⟨t', rfl⟩ := hu
    split at h
    · rename_i hs
      cases h
      exact PyProof.Rows.add_str (fun t' tk => Post.here S.toks ⟨_, rfl⟩) (by have := sizeLine_eq; omega)
    · cases h
  · obtain ⟨a, ha, rfl⟩ := hv; obtain ⟨b, hb, rfl⟩ := hu
    split at h
    · rename_i xs ys hx hy
      split at h
      · rename_i hs
        cases h
        obtain ⟨o, ho, hor⟩ := S.obj _ _ _ ha hx
        obtain ⟨o', ho', hor'⟩ := S.obj _ _ _ hb hy
        obtain ⟨vs, n, hl, hvs⟩ := list_of ho hor
        obtain ⟨vs', n', hl', hvs'⟩ := list_of ho' hor'
        have e1 := hvs.length
        have e2 := hvs'.length
        refine P.add_list hl hl' ?_ (by have := sizeLine_eq; simp only [List.size_toArray]; omega)
        rw [List.append_toArray]
        exact S.pushList (hvs.append hvs')
      · cases h
    · cases h
  · rename_i i n
    obtain ⟨a, ha, rfl⟩ := hv; obtain ⟨t', rfl⟩ := hu
    split at h
    · rename_i xs hx
      split at h
      · rename_i hs
        cases h
        obtain ⟨o, ho, hor⟩ := S.obj _ _ _ ha hx
        obtain ⟨vs, k, hl, hvs⟩ := list_of ho hor
        have e1 := hvs.length
        refine mul_list_base hl (by omega) (by omega) (by simp only [List.size_toArray]; rw [← e1]; omega) ?_
        have e2 : List.foldl (fun (x1 x2 : Array Value) => x1 ++ x2) #[] (List.replicate (if vs.toArray.isEmpty = true then 0 else n.toNat) vs.toArray) = (List.replicate n.toNat vs).flatten.toArray := by
          by_cases he : vs = []
          · subst he
            simp
          · have : vs.toArray.isEmpty = false := by simpa using he
            rw [this]
            simpa using foldl_rep vs n.toNat []
        rw [e2]
        exact S.pushList (hvs.replicate _)
      · cases h
    · cases h
  · cases h
end
def intsOf : List AV → Option (List Int)
  | [] => some []
  | .int i :: r => (intsOf r).map (i :: ·)
  | _ => .none
def strsOf : List AV → Option (List Str)
  | [] => some []
  | .str i :: r => (strsOf r).map (i :: ·)
  | _ => .none
theorem intsOf_map (l : List Int) : intsOf (l.map AV.int) = some l := by
  induction l with
  | nil => rfl
  | cons a r ih => simp [intsOf, ih]
theorem strsOf_map (l : List Str) : strsOf (l.map AV.str) = some l := by
  induction l with
  | nil => rfl
  | cons a r ih => simp [strsOf, ih]
theorem ints_are {ρ : List Addr} : ∀ {xs : List AV} {vs : List Value} {ns : List Int}, intsOf xs = some ns → All2 (VR ρ) xs vs → IntsAre vs ns
  | _, _, _, h, .nil => by cases h; exact .nil
  | .int i :: r, _, ns, h, .cons x y => by
    simp only [intsOf] at h
    cases hr : intsOf r with
    | none => rw [hr] at h; cases h
    | some q => rw [hr] at h; cases h; obtain ⟨t, rfl⟩ := x; exact .cons _ _ (ints_are hr y)
  | .none :: _, _, _, h, .cons _ _ => by cases h
  | .bool _ :: _, _, _, h, .cons _ _ => by cases h
  | .str _ :: _, _, _, h, .cons _ _ => by cases h
  | .typ _ :: _, _, _, h, .cons _ _ => by cases h
  | .blt _ :: _, _, _, h, .cons _ _ => by cases h
  | .old _ :: _, _, _, h, .cons _ _ => by cases h
  | .ref _ :: _, _, _, h, .cons _ _ => by cases h
theorem strs_are {ρ : List Addr} : ∀ {xs : List AV} {vs : List Value} {ns : List Str}, strsOf xs = some ns → All2 (VR ρ) xs vs → StrsAre vs ns
  | _, _, _, h, .nil => by cases h; exact .nil
  | .str i :: r, _, ns, h, .cons x y => by
    simp only [strsOf] at h
    cases hr : strsOf r with
    | none => rw [hr] at h; cases h
    | some q => rw [hr] at h; cases h; obtain ⟨t, rfl⟩ := x; exact .cons _ _ (strs_are hr y)
  | .none :: _, _, _, h, .cons _ _ => by cases h
  | .bool _ :: _, _, _, h, .cons _ _ => by cases h
  | .int _ :: _, _, _, h, .cons _ _ => by cases h
  | .typ _ :: _, _, _, h, .cons _ _ => by cases h
  | .blt _ :: _, _, _, h, .cons _ _ => by cases h
  | .old _ :: _, _, _, h, .cons _ _ => by cases h
  | .ref _ :: _, _, _, h, .cons _ _ => by cases h
def listAt (st : St) (k : Nat) : Option (List AV) := match st[k]? with
  | some (.list xs) => some xs
  | _ => .none
def esetAt (st : St) (k : Nat) : Bool := match st[k]? with
  | some .eset => true
  | _ => false
def setTru (st : St) (k : Nat) : Option Bool := match st[k]? with
  | some .eset => some false
  | some (.set1 _) => some true
  | _ => .none
def acmp (op : CmpOp) (x y : AV) (st : St) : Option Bool := match op, x, y with
  | .Eq, .int a, .int b => some (decide (a = b))
  | .NotEq, .int a, .int b => some (!decide (a = b))
  | .Lt, .int a, .int b => some (decide (a < b))
  | .LtE, .int a, .int b => some (decide (a ≤ b))
  | .Gt, .int a, .int b => some (decide (a > b))
  | .GtE, .int a, .int b => some (decide (a ≥ b))
  | .Eq, .str a, .str b => some (decide (a = b))
  | .NotEq, .str a, .str b => some (!decide (a = b))
  | .Is, .none, .none => some true
  | .IsNot, .none, .none => some false
  | .Is, .str _, .none => some false
  | .IsNot, .str _, .none => some true
  | .Is, .ref _, .none => some false
  | .IsNot, .ref _, .none => some true
  | .Is, .typ a, .typ b => some (decide (a = b))
  | .IsNot, .typ a, .typ b => some (!decide (a = b))
  | .In, .str a, .ref k => (listAt st k).bind fun xs => (strsOf xs).map fun ss => ss.any fun b => decide (b = a)
  | .NotIn, .str a, .ref k => (listAt st k).bind fun xs => (strsOf xs).map fun ss => !ss.any fun b => decide (b = a)
  | .In, .int a, .ref k => if esetAt st k = true then some false else (listAt st k).bind fun xs => (intsOf xs).map fun ss => ss.any fun b => decide (b = a)
  | .NotIn, .int a, .ref k => (listAt st k).bind fun xs => (intsOf xs).map fun ss => !ss.any fun b => decide (b = a)
  | .NotEq, .ref i, .ref j => (listAt st i).bind fun xs => (listAt st j).bind fun ys => match intsOf xs, intsOf ys with
    | some a, some b => some (!decide (a = b))
    | _, _ => (match strsOf xs, strsOf ys with
      | some a, some b => if (a.all PyData.strOk && b.all PyData.strOk) = true then some (!decide (a = b)) else .none
      | _, _ => .none)
  | _, _, _ => .none
section
variable {prog : Program} {w : World} {A : Around} {s : Shared} {B : Base} {ρ : List Addr} {st : St} {d : Nat}
def CmpPost (B : Base) (ρ : List Addr) (st : St) (b : Bool) : Value → Shared → Prop := fun c s' => c = .bool b ∧ SR B ρ st s'
theorem SR.listOf (S : SR B ρ st s) {k : Nat} {a : Addr} {xs : List AV} (ha : ρ[k]? = some a) (h : listAt st k = some xs) : ∃ vs n, IsL s.heap a vs.toArray n ∧ All2 (VR ρ) xs vs := by
  unfold listAt at h
  split at h
  · rename_i ys hs
    cases h
    obtain ⟨o, ho, hor⟩ := S.obj _ _ _ ha hs
    exact list_of ho hor
  · cases h
def strE (a : Str) : Value → Bool
  | .str b _ => b == a
  | _ => false
def intE (a : Int) : Value → Bool
  | .int b _ => b == a
  | _ => false
theorem strs_any {a : Str} : ∀ {vs : List Value} {ss : List Str}, StrsAre vs ss → vs.any (strE a) = ss.any fun b => decide (b = a)
  | _, _, .nil => rfl
  | _, _, .cons x t r => by
    simp only [List.any_cons, strs_any r, strE]
    congr 1
theorem ints_any {a : Int} : ∀ {vs : List Value} {ss : List Int}, IntsAre vs ss → vs.any (intE a) = ss.any fun b => decide (b = a)
  | _, _, .nil => rfl
  | _, _, .cons x t r => by
    simp only [List.any_cons, ints_any r, intE]
    congr 1
theorem strs_mem {vs : List Value} {ss : List Str} (h : StrsAre vs ss) : ∀ y ∈ vs, ∃ b t, y = .str b t := by
  induction h with
  | nil => intro y hy; exact nomatch hy
  | cons x t r ih => intro y hy; rcases List.mem_cons.mp hy with rfl | hy; exact ⟨_, _, rfl⟩; exact ih y hy
theorem ints_mem {vs : List Value} {ss : List Int} (h : IntsAre vs ss) : ∀ y ∈ vs, ∃ b t, y = .int b t := by
  induction h with
  | nil => intro y hy; exact nomatch hy
  | cons x t r ih => intro y hy; rcases List.mem_cons.mp hy with rfl | hy; exact ⟨_, _, rfl⟩; exact ih y hy
theorem canLay_strs : ∀ ns : List Str, ns.all PyData.strOk = true → PyData.canLayAll0 (ns.map PyData.str) = true
  | [], _ => rfl
  | _ :: r, h => by
    simp only [List.all_cons, Bool.and_eq_true] at h
    simp [PyData.canLayAll0, PyData.canLay0, canLay_strs r h.2, h.1]
theorem depth_strs : ∀ ns : List Str, PyData.depthAll (ns.map PyData.str) = 0
  | [] => rfl
  | _ :: r => by simp [PyData.depthAll, PyData.depth, depth_strs r]
theorem shaped_strs (ns : List Str) (h : ns.all PyData.strOk = true) : SeqAt.shaped (.list (ns.map PyData.str)) = true := by
  simp [SeqAt.shaped, PyData.canLay0, PyData.depth, canLay_strs ns h, depth_strs]
theorem sameAll_strs : ∀ ns ms : List Str, PySem.Spec.sameAll (ns.map PyData.str) (ms.map PyData.str) = decide (ns = ms)
  | [], [] => by simp [PySem.Spec.sameAll]
  | [], _ :: _ => by simp [PySem.Spec.sameAll]
  | _ :: _, [] => by simp [PySem.Spec.sameAll]
  | a :: r, b :: t => by
    simp only [List.map_cons, PySem.Spec.sameAll, PySem.Spec.same, sameAll_strs r t]
    by_cases h : a = b <;> by_cases h' : r = t <;> simp [h, h']
theorem same_strs (ns ms : List Str) : PySem.Spec.same (.list (ns.map PyData.str)) (.list (ms.map PyData.str)) = decide (ns = ms) := by
  simp only [PySem.Spec.same]; exact sameAll_strs ns ms
theorem carried_strs : ∀ {vs : List Value} {ns : List Str}, StrsAre vs ns → CarriedAll vs (ns.map PyData.str)
  | _, _, .nil => .nil
  | _, _, .cons _ t r => .cons (.str _ t) (carried_strs r)
theorem ne_strs {a b : Addr} {xs ys : List Value} {ns ms : List Str} {E Q : Value → Shared → Prop} (ha : s.heap.IsList a xs.toArray) (hb : s.heap.IsList b ys.toArray) (hi : StrsAre xs ns) (hj : StrsAre ys ms) (h1 : ns.all PyData.strOk = true) (h2 : ms.all PyData.strOk = true) (hu : A.units + 64 < cLine) (h : Q (.bool (!decide (ns = ms))) s) :
    wpAny (model prog w) A (compareOp .NotEq (.ref a) (.ref b)) Q E s :=
  ne_dataH_same (reads_newData ha (carried_strs hi)) (reads_newData hb (carried_strs hj)) (shaped_strs _ h1) (shaped_strs _ h2) hu (SeqAt.noMix_of_shape (.list .str) rfl _ _ (list_map_has fun _ => rfl) (list_map_has fun _ => rfl)) (by rw [same_strs]; exact h)
theorem str_eq_lists (a b : Str) : (a.cps.toList == b.cps.toList) = decide (a = b) := by
  by_cases h : a = b
  · subst h; simp
  · have : a.cps.toList ≠ b.cps.toList := fun e => h (by cases a; cases b; simp only [Str.mk.injEq]; exact Array.toList_inj.mp e)
    rw [decide_eq_false h]
    exact beq_eq_false_iff_ne.mpr this
theorem acmp_ok {op : CmpOp} {x y : AV} {b : Bool} (h : acmp op x y st = some b) (hA : Room A d) (S : SR B ρ st s) {v u : Value} (hv : VR ρ x v) (hu : VR ρ y u) :
    wpAny (model prog w) A (compareOp op v u) (CmpPost B ρ st b) NoE s := by
  have hroom : A.units + 64 < cLine := by have := hA.units; have := cLine_is; omega
  unfold acmp at h
  split at h
  · obtain ⟨t, rfl⟩ := hv; obtain ⟨t', rfl⟩ := hu; cases h; exact PySem.P.eq_int ⟨rfl, S⟩
  · obtain ⟨t, rfl⟩ := hv; obtain ⟨t', rfl⟩ := hu; cases h; exact PySem.P.ne_int ⟨rfl, S⟩
  · obtain ⟨t, rfl⟩ := hv; obtain ⟨t', rfl⟩ := hu; cases h; exact PySem.P.lt_int ⟨rfl, S⟩
  · obtain ⟨t, rfl⟩ := hv; obtain ⟨t', rfl⟩ := hu; cases h; exact PySem.P.le_int ⟨rfl, S⟩
  · obtain ⟨t, rfl⟩ := hv; obtain ⟨t', rfl⟩ := hu; cases h; exact PySem.P.gt_int ⟨rfl, S⟩
  · obtain ⟨t, rfl⟩ := hv; obtain ⟨t', rfl⟩ := hu; cases h; exact PySem.P.ge_int ⟨rfl, S⟩
  · obtain ⟨t, rfl⟩ := hv; obtain ⟨t', rfl⟩ := hu; cases h; exact P.eq_str ⟨by rw [str_eq_lists], S⟩
  · obtain ⟨t, rfl⟩ := hv; obtain ⟨t', rfl⟩ := hu; cases h; exact P.ne_str ⟨by rw [bne, str_eq_lists], S⟩
  · obtain rfl := hv; obtain rfl := hu; cases h; exact PySem.is_none ⟨rfl, S⟩
  · obtain rfl := hv; obtain rfl := hu; cases h; exact PySem.isNot_none ⟨rfl, S⟩
  · obtain ⟨t, rfl⟩ := hv; obtain rfl := hu; cases h; exact PySem.is_none ⟨rfl, S⟩
  · obtain ⟨t, rfl⟩ := hv; obtain rfl := hu; cases h; exact PySem.isNot_none ⟨rfl, S⟩
  · obtain ⟨a, _, rfl⟩ := hv; obtain rfl := hu; cases h; exact PySem.is_none ⟨rfl, S⟩
  · obtain ⟨a, _, rfl⟩ := hv; obtain rfl := hu; cases h; exact PySem.isNot_none ⟨rfl, S⟩
  · rename_i a b'
    obtain rfl := hv; obtain rfl := hu; cases h
    refine wpAny_is_plain rfl ⟨?_, S⟩
    congr 1
    by_cases e : a = b'
    · subst e; simp
    · have : (Value.type a == Value.type b') = false := beq_eq_false_iff_ne.mpr (fun q => e (Value.type.inj q))
      rw [this]; simp [e]
  · rename_i a b'
    obtain rfl := hv; obtain rfl := hu; cases h
    refine wpAny_isNot_plain rfl ⟨?_, S⟩
    congr 2
    by_cases e : a = b'
    · subst e; simp
    · have : (Value.type a == Value.type b') = false := beq_eq_false_iff_ne.mpr (fun q => e (Value.type.inj q))
      rw [this]; simp [e]
  · rename_i a k
    obtain ⟨t, rfl⟩ := hv; obtain ⟨ad, had, rfl⟩ := hu
    obtain ⟨xs, hx, h⟩ := Option.bind_eq_some_iff.mp h
    obtain ⟨ss, hs, h⟩ := Option.map_eq_some_iff.mp h
    subst h
    obtain ⟨vs, n, hl, hvs⟩ := S.listOf had hx
    have hss := strs_are hs hvs
    refine SeqAt.in_listAt (strE a) hl.isList (fun y hy => ?_) ⟨?_, S⟩
    · obtain ⟨b, u, rfl⟩ := strs_mem hss y (by simpa using hy)
      exact SeqAt.EqAt.str_str _ _ _ _
    · rw [List.any_toArray, strs_any hss]
  · rename_i a k
    obtain ⟨t, rfl⟩ := hv; obtain ⟨ad, had, rfl⟩ := hu
    obtain ⟨xs, hx, h⟩ := Option.bind_eq_some_iff.mp h
    obtain ⟨ss, hs, h⟩ := Option.map_eq_some_iff.mp h
    subst h
    obtain ⟨vs, n, hl, hvs⟩ := S.listOf had hx
    have hss := strs_are hs hvs
    refine SeqAt.notIn_listAt (strE a) hl.isList (fun y hy => ?_) ⟨?_, S⟩
    · obtain ⟨b, u, rfl⟩ := strs_mem hss y (by simpa using hy)
      exact SeqAt.EqAt.str_str _ _ _ _
    · rw [List.any_toArray, strs_any hss]
  · rename_i a k
    split at h
    · rename_i he
      cases h
      obtain ⟨t, rfl⟩ := hv; obtain ⟨ad, had, rfl⟩ := hu
      unfold esetAt at he
      split at he
      · rename_i hst
        obtain ⟨o, ho, hex, ep, tb, hd, hf⟩ := S.obj _ _ _ had hst
        exact in_empty ho hex hd hf ⟨rfl, S.toks⟩
      · cases he
    obtain ⟨t, rfl⟩ := hv; obtain ⟨ad, had, rfl⟩ := hu
    obtain ⟨xs, hx, h⟩ := Option.bind_eq_some_iff.mp h
    obtain ⟨ss, hs, h⟩ := Option.map_eq_some_iff.mp h
    subst h
    obtain ⟨vs, n, hl, hvs⟩ := S.listOf had hx
    have hss := ints_are hs hvs
    refine SeqAt.in_listAt (intE a) hl.isList (fun y hy => ?_) ⟨?_, S⟩
    · obtain ⟨b, u, rfl⟩ := ints_mem hss y (by simpa using hy)
      exact SeqAt.EqAt.int_int _ _ _ _
    · rw [List.any_toArray, ints_any hss]
  · rename_i a k
    obtain ⟨t, rfl⟩ := hv; obtain ⟨ad, had, rfl⟩ := hu
    obtain ⟨xs, hx, h⟩ := Option.bind_eq_some_iff.mp h
    obtain ⟨ss, hs, h⟩ := Option.map_eq_some_iff.mp h
    subst h
    obtain ⟨vs, n, hl, hvs⟩ := S.listOf had hx
    have hss := ints_are hs hvs
    refine SeqAt.notIn_listAt (intE a) hl.isList (fun y hy => ?_) ⟨?_, S⟩
    · obtain ⟨b, u, rfl⟩ := ints_mem hss y (by simpa using hy)
      exact SeqAt.EqAt.int_int _ _ _ _
    · rw [List.any_toArray, ints_any hss]
  · obtain ⟨a, ha, rfl⟩ := hv; obtain ⟨a', ha', rfl⟩ := hu
    obtain ⟨xs, hx, h⟩ := Option.bind_eq_some_iff.mp h
    obtain ⟨ys, hy, h⟩ := Option.bind_eq_some_iff.mp h
    obtain ⟨vs, n, hl, hvs⟩ := S.listOf ha hx
    obtain ⟨vs', n', hl', hvs'⟩ := S.listOf ha' hy
    split at h
    · rename_i p q h1 h2
      cases h
      exact ke_ne_ints hl.isList hl'.isList (ints_are h1 hvs) (ints_are h2 hvs') hroom ⟨rfl, S⟩
    · split at h
      · rename_i p q h1 h2
        split at h
        · rename_i hok
          cases h
          simp only [Bool.and_eq_true] at hok
          exact ne_strs hl.isList hl'.isList (strs_are h1 hvs) (strs_are h2 hvs') hok.1 hok.2 hroom ⟨rfl, S⟩
        · cases h
      · cases h
  · cases h
def atru (x : AV) (st : St) : Option Bool := match x with
  | .none => some false
  | .bool b => some b
  | .int a => some (!decide (a = 0))
  | .str a => if a.length ≤ 1000 then some (!decide (a.length = 0)) else .none
  | .ref k => (match listAt st k with
    | some xs => if xs.length ≤ 1000 then some (!xs.isEmpty) else .none
    | .none => setTru st k)
  | _ => .none
theorem atru_ok {x : AV} {b : Bool} (h : atru x st = some b) (S : SR B ρ st s) {v : Value} (hv : VR ρ x v) :
    wpAny (model prog w) A (truthy v) (fun c s' => c = b ∧ SR B ρ st s') NoE s := by
  unfold atru at h
  split at h
  · obtain rfl := hv; cases h; exact PyProof.Rows.truthy_none ⟨rfl, S⟩
  · obtain rfl := hv; cases h; exact wpAny_truthy_bool ⟨rfl, S⟩
  · obtain ⟨t, rfl⟩ := hv; cases h; exact PySem.P.truthy_int ⟨rfl, S⟩
  · rename_i a
    obtain ⟨t, rfl⟩ := hv
    split at h
    · rename_i hs
      cases h
      refine P.truthy_str (by omega) ⟨?_, S.toks⟩
      simp only [bne]
      congr 1
      by_cases e : a.length = 0
      · rw [e]; rfl
      · have : ((a.length : Int) == 0) = false := beq_eq_false_iff_ne.mpr (by omega)
        rw [this]; simp [e]
    · cases h
  · obtain ⟨a, ha, rfl⟩ := hv
    split at h
    · rename_i xs hx
      split at h
      · rename_i hs
        cases h
        obtain ⟨vs, n, hl, hvs⟩ := S.listOf ha hx
        have e := hvs.length
        refine wpAny_truthy_list hl.isList (by simp only [List.size_toArray]; omega) ⟨?_, S.toks⟩
        cases hvs <;> simp
      · cases h
    · unfold setTru at h
      split at h
      · rename_i hst
        cases h
        obtain ⟨o, ho, hex, ep, tb, hd, hf⟩ := S.obj _ _ _ ha hst
        exact truthy_set ho hex hd hf (by simp) ⟨rfl, S.toks⟩
      · rename_i hst
        cases h
        obtain ⟨o, ho, hex, _, _, ep, tb, hd, hf⟩ := S.obj _ _ _ ha hst
        exact truthy_set ho hex hd hf (by simp) ⟨rfl, S.toks⟩
      · cases h
  · cases h
end
def seqAt (st : St) (k : Nat) : Option (List AV) := match st[k]? with
  | some (.list xs) => some xs
  | some (.rlist xs) => some xs
  | some (.tup xs) => some xs
  | _ => .none
def aitem (x i : AV) (st : St) : Option (AV × St) := match x, i with
  | .ref k, .int i => (seqAt st k).bind fun xs => if 0 ≤ i ∧ i < 2 ^ 60 then (xs[i.toNat]?).map fun v => (v, st) else .none
  | .str s, .int i => if -(2 ^ 60) < i ∧ i < 2 ^ 60 then ((seqIndex? i s.length).bind (s.cps[·]?)).map fun c => (.str ⟨#[c]⟩, st) else .none
  | _, _ => .none
section
variable {prog : Program} {w : World} {A : Around} {s : Shared} {B : Base} {ρ : List Addr} {st : St} {d : Nat}
theorem SR.seqOf (S : SR B ρ st s) {k : Nat} {a : Addr} {xs : List AV} (ha : ρ[k]? = some a) (h : seqAt st k = some xs) :
    ∃ vs, All2 (VR ρ) xs vs ∧ (s.heap.IsList a vs.toArray ∨ ∃ n, IsT s.heap a vs.toArray n) := by
  unfold seqAt at h
  split at h
  · rename_i ys hs
    cases h
    obtain ⟨o, ho, hor⟩ := S.obj _ _ _ ha hs
    obtain ⟨vs, n, hl, hv⟩ := list_of ho hor
    exact ⟨vs, hv, .inl hl.isList⟩
  · rename_i ys hs
    cases h
    obtain ⟨o, ho, hor⟩ := S.obj _ _ _ ha hs
    obtain ⟨vs, n, e1, e2, q⟩ := hor
    exact ⟨vs, q, .inl ⟨o, ho, e1, n, e2⟩⟩
  · rename_i ys hs
    cases h
    obtain ⟨o, ho, hor⟩ := S.obj _ _ _ ha hs
    obtain ⟨vs, n, e, q⟩ := hor
    subst e
    exact ⟨vs, q, .inr ⟨n, ho⟩⟩
  · cases h
theorem Subscript_base {env : Env} {value slice : Expr} {pos : Pos} {E Q : Value → Shared → Prop}
    (h : wpAny (model prog w) A (eval value env) (fun o s₁ => wpAny (model prog w) A (eval slice env) (fun i s₂ => ∃ T id, typeLookup (.type T) "__getitem__" = pure (some (.builtin id)) ∧ s₂.TypeIs o T ∧ wpAny (model prog w) A (getItem o i) Q E s₂) E s₁) E s) :
    wpAny (model prog w) A (eval (.Subscript value slice pos) env) Q E s := by
  rw [eval_Subscript]
  refine wpAny_bind (wpAny_mono h (fun o s₁ h₁ => wpAny_bind (wpAny_holding (wpAny_mono h₁ (fun i s₂ h₂ => wpAny_bind (wpAny_standAt ?_)) fun _ _ x => x)))
    fun _ _ x => x)
  obtain ⟨T, id, hl, hT, hg⟩ := h₂
  refine wpAny_bind ?_
  rw [getitemInPython_of_ne hT.not_modules]
  refine wpAny_bind (wpAny_specialOf hT hl ?_)
  have fin : wpAny (model prog w) A (subscripted slice false o i) (fun r s₃ => wpAny (model prog w) A (letTemporaryGo value o r >>= fun _ => pure r) Q E s₃) E s₂ := by
    have g := wpAny_mono hg (Q' := fun r s₃ => wpAny (model prog w) A (letTemporaryGo value o r >>= fun _ => pure r) Q E s₃) (fun r s₃ h₃ => wpAny_bind (wpAny_letTemporaryGo (wpAny_pure h₃))) fun _ _ x => x
    unfold subscripted
    split
    · exact wpAny_operating g
    · rename_i hh; cases hh
    · exact wpAny_operating g
  first
    | exact wpAny_pure (wpAny_bind fin)
    | exact wpAny_bind (wpAny_pure (wpAny_bind fin))
    | exact wpAny_bind fin
def ItemPost (A : Around) (prog : Program) (w : World) (B : Base) (ρ : List Addr) (r : AV × St) (o i : Value) (s : Shared) : Prop :=
  ∃ T id, typeLookup (.type T) "__getitem__" = pure (some (.builtin id)) ∧ s.TypeIs o T ∧ wpAny (model prog w) A (getItem o i) (Post B ρ r) NoE s
theorem aitem_ok {x i : AV} {r : AV × St} (h : aitem x i st = some r) (S : SR B ρ st s) {v u : Value} (hv : VR ρ x v) (hu : VR ρ i u) : ItemPost A prog w B ρ r v u s := by
  unfold aitem at h
  split at h
  · rename_i k i
    obtain ⟨a, ha, rfl⟩ := hv; obtain ⟨t, rfl⟩ := hu
    obtain ⟨xs, hx, h⟩ := Option.bind_eq_some_iff.mp h
    split at h
    · rename_i hb
      obtain ⟨y, hy, h⟩ := Option.map_eq_some_iff.mp h
      subst h
      obtain ⟨vs, hvs, hl⟩ := S.seqOf ha hx
      obtain ⟨y', hy', hr⟩ := hvs.get hy
      rcases hl with hl | ⟨n, hl⟩
      · exact ⟨"list", _, slot_list_getitem.lookup, hl.typeIs, wpAny_getItem_list hl hb.1 (by omega) (by simpa using hy') (Post.here S hr)⟩
      · refine ⟨"tuple", _, F.slot_tuple_getitem.lookup, ⟨_, hl, rfl⟩, P.getItem_tuple (k := i.toNat) hl (by omega) (by omega) ?_ ?_ (Post.here S hr)⟩
        · have hlt := (List.getElem?_eq_some_iff.mp hy').1
          unfold seqIndex?
          simp only [List.size_toArray]
          rw [if_neg (show ¬ i < 0 by omega), if_pos (by simp; omega)]
        · simpa using hy'
    · cases h
  · obtain ⟨t, rfl⟩ := hv; obtain ⟨t', rfl⟩ := hu
    split at h
    · rename_i hb
      obtain ⟨c, hc, h⟩ := Option.map_eq_some_iff.mp h
      subst h
      refine ⟨"str", _, F.slot_str_getitem.lookup, typeIs_str _ _ _, P.getItem_str ?_ hc (Post.here S.toks ⟨_, rfl⟩)⟩
      simp only [Bool.or_eq_false_iff, decide_eq_false_iff_not]
      constructor <;> omega
    · cases h
  · cases h
def partOf : AV → Option (Option Int)
  | .none => some .none
  | .int i => some (some i)
  | _ => .none
def aslice (x lo hi : AV) (st : St) : Option (AV × St) := (partOf lo).bind fun l => (partOf hi).bind fun u => match x with
  | .ref k => (match st[k]? with
    | some (.list xs) => if xs.length ≤ 1000 then some (.ref st.length, st ++ [.list ((xs.drop (l.elim 0 (clipAt xs.length))).take (u.elim xs.length (clipAt xs.length) - l.elim 0 (clipAt xs.length)))]) else .none
    | some (.rlist xs) => if xs.length ≤ 1000 then some (.ref st.length, st ++ [.list ((xs.drop (l.elim 0 (clipAt xs.length))).take (u.elim xs.length (clipAt xs.length) - l.elim 0 (clipAt xs.length)))]) else .none
    | _ => .none)
  | .str s => if s.length ≤ 1000 then some (.str (Txt.slice s l u), st) else .none
  | _ => .none
theorem partOf_val {x : AV} {l : Option Int} {v : Value} (h : partOf x = some l) (hv : VR ρ x v) : ∃ p : Option (Int × Tok), v = partValue p ∧ l = p.map (·.1) := by
  unfold partOf at h
  split at h
  · cases h; obtain rfl := hv; exact ⟨.none, rfl, rfl⟩
  · cases h; obtain ⟨t, rfl⟩ := hv; exact ⟨some (_, t), rfl, rfl⟩
  · cases h
theorem isPart_of (p : Option (Int × Tok)) : IsPart (partValue p) (p.map (·.1)) := by
  cases p with
  | none => first | exact .none | exact rfl | exact .inl ⟨rfl, rfl⟩ | constructor
  | some q => obtain ⟨i, t⟩ := q; first | exact .int _ _ | exact ⟨t, rfl⟩ | exact .inr ⟨i, t, rfl, rfl⟩ | constructor
theorem aslice_ok {x lo hi : AV} {r : AV × St} (h : aslice x lo hi st = some r) (S : SR B ρ st s) {v vl vu : Value} (hv : VR ρ x v) (hl : VR ρ lo vl) (hu : VR ρ hi vu) :
    ItemPost A prog w B ρ r v (.ref s.heap.objs.size) { s with heap := s.heap.push { cls := .type "slice", data := .fields #[vl, vu, .none] } } := by
  unfold aslice at h
  obtain ⟨l, h1, h⟩ := Option.bind_eq_some_iff.mp h
  obtain ⟨u, h2, h⟩ := Option.bind_eq_some_iff.mp h
  obtain ⟨p, rfl, rfl⟩ := partOf_val h1 hl
  obtain ⟨q, rfl, rfl⟩ := partOf_val h2 hu
  have S' : SR B ρ st { s with heap := s.heap.push { cls := .type "slice", data := .fields #[partValue p, partValue q, .none] } } := S.grown (tk := s.toks) fun _ _ e => Heap.get?_push_of_some _ e
  have hsl : (s.heap.push { cls := .type "slice", data := .fields #[partValue p, partValue q, .none] }).get? s.heap.objs.size = some { cls := .type "slice", data := .fields #[partValue p, partValue q, .none] } := Heap.get?_push_size _ rfl
  have core : ∀ (a : Addr) (xs : List AV) (vs : List Value), (s.heap.push { cls := .type "slice", data := .fields #[partValue p, partValue q, .none] }).IsList a vs.toArray → All2 (VR ρ) xs vs → xs.length ≤ 1000 →
      ItemPost A prog w B ρ (.ref st.length, st ++ [.list ((xs.drop ((p.map (·.1)).elim 0 (clipAt xs.length))).take ((q.map (·.1)).elim xs.length (clipAt xs.length) - (p.map (·.1)).elim 0 (clipAt xs.length)))]) (.ref a) (.ref s.heap.objs.size)
        { s with heap := s.heap.push { cls := .type "slice", data := .fields #[partValue p, partValue q, .none] } } := by
    intro a xs vs hla hvs hlen
    refine ⟨"list", _, slot_list_getitem.lookup, hla.typeIs, ?_⟩
    refine wpAny_getItem_list_slice (s := { s with heap := s.heap.push { cls := .type "slice", data := .fields #[partValue p, partValue q, .none] } }) (vs := .none) (st := .none) hla ⟨_, hsl, rfl, rfl⟩ (isPart_of p) (isPart_of q) (isPart_of .none) (by simp) ?_ (by have := hvs.length; have := sizeLine_eq; simp only [List.size_toArray]; omega)
    rw [slicePick_plain]
    simp only [List.size_toArray]
    rw [← hvs.length]
    exact S'.pushList ((hvs.drop _).take _)
  split at h
  · obtain ⟨a, ha, rfl⟩ := hv
    split at h
    · rename_i xs hx
      split at h
      · rename_i hlen
        cases h
        obtain ⟨o, ho, hor⟩ := S'.obj _ _ _ ha hx
        obtain ⟨vs, n, hla, hvs⟩ := list_of ho hor
        exact core a xs vs hla.isList hvs hlen
      · cases h
    · rename_i xs hx
      split at h
      · rename_i hlen
        cases h
        obtain ⟨o, ho, hor⟩ := S'.obj _ _ _ ha hx
        obtain ⟨vs, n, e1, e2, hvs⟩ := hor
        exact core a xs vs ⟨o, ho, e1, n, e2⟩ hvs hlen
      · cases h
    · cases h
  · obtain ⟨t, rfl⟩ := hv
    split at h
    · rename_i hlen
      cases h
      refine ⟨"str", _, F.slot_str_getitem.lookup, typeIs_str _ _ _, wpAny_getItem_str_slice (l := p) (u := q) (st := .none) ⟨_, hsl, rfl, rfl⟩ rfl ?_⟩
      exact post_val_or_str ⟨Nat.le_trans (Txt.slice_le _ _ _) (by have := sizeLine_eq; omega), fun t' k => Post.here S'.toks ⟨_, rfl⟩⟩
    · cases h
  · cases h
end
def bBin (op : Operator) (a b : Act AV) : Act AV := fun ae st => (a ae st).bind fun p => (b ae p.2).bind fun q => abin op p.1 q.1 q.2
def aun (op : UnaryOp) (x : AV) (st : St) : Option (AV × St) := match op, x with
  | .USub, .int a => some (.int (-a), st)
  | .Invert, .int a => some (.int (Builtin.bitNot a), st)
  | .Not, x => (atru x st).map fun b => (.bool (!b), st)
  | _, _ => .none
def bUn (op : UnaryOp) (a : Act AV) : Act AV := fun ae st => (a ae st).bind fun p => aun op p.1 p.2
def bCmp (op : CmpOp) (a b : Act AV) : Act AV := fun ae st => (a ae st).bind fun p => (b ae p.2).bind fun q => (acmp op p.1 q.1 q.2).map fun c => (.bool c, q.2)
def tCmp (op : CmpOp) (a b : Act AV) : Act Bool := fun ae st => (a ae st).bind fun p => (b ae p.2).bind fun q => (acmp op p.1 q.1 q.2).map fun c => (c, q.2)
def tVal (a : Act AV) : Act Bool := fun ae st => (a ae st).bind fun p => (atru p.1 p.2).map fun c => (c, p.2)
def tNot (a : Act Bool) : Act Bool := fun ae st => (a ae st).map fun p => (!p.1, p.2)
def tIte (c a b : Act Bool) : Act Bool := fun ae st => (c ae st).bind fun p => if p.1 = true then a ae p.2 else b ae p.2
def bIte (c : Act Bool) (a b : Act AV) : Act AV := fun ae st => (c ae st).bind fun p => if p.1 = true then a ae p.2 else b ae p.2
def tTrue : Act Bool := fun _ st => some (true, st)
def tFalse : Act Bool := fun _ st => some (false, st)
def tAnd (a b : Act Bool) : Act Bool := fun ae st => (a ae st).bind fun p => if p.1 = true then b ae p.2 else some (false, p.2)
def tOr (a b : Act Bool) : Act Bool := fun ae st => (a ae st).bind fun p => if p.1 = true then some (true, p.2) else b ae p.2
def bAnd (a b : Act AV) : Act AV := fun ae st => (a ae st).bind fun p => (atru p.1 p.2).bind fun c => if c = true then b ae p.2 else some p
def bOr (a b : Act AV) : Act AV := fun ae st => (a ae st).bind fun p => (atru p.1 p.2).bind fun c => if c = true then some p else b ae p.2
def bItem (a i : Act AV) : Act AV := fun ae st => (a ae st).bind fun p => (i ae p.2).bind fun q => aitem p.1 q.1 q.2
def bSlice (a lo hi : Act AV) : Act AV := fun ae st => (a ae st).bind fun p => (lo ae p.2).bind fun q => (hi ae q.2).bind fun u => aslice p.1 q.1 u.1 u.2
def lNil : Act (List AV) := fun _ st => some ([], st)
def lCons (a : Act AV) (b : Act (List AV)) : Act (List AV) := fun ae st => (a ae st).bind fun p => (b ae p.2).map fun q => (p.1 :: q.1, q.2)
def bList (a : Act (List AV)) : Act AV := fun ae st => (a ae st).bind fun p => if p.1.length ≤ 1000 then some (.ref p.2.length, p.2 ++ [.list p.1]) else .none
def bTup (a : Act (List AV)) : Act AV := fun ae st => (a ae st).bind fun p => if p.1.length ≤ 1000 then some (.ref p.2.length, p.2 ++ [.tup p.1]) else .none
def isStarred : Expr → Bool
  | .Starred _ _ => true
  | _ => false
def plainTruth : Expr → Bool
  | .UnaryOp .Not _ _ | .BoolOp .. | .IfExp .. | .Compare .. => false
  | _ => true
section
variable {prog : Program} {w : World} {G : List (Str × AV)} {mg mb : Str → Option Value} {X : Heap → List TabD → Prop} {Γ : Sc} {d : Nat}
theorem bind2 {α β : Type} {x : Option α} {f : α → Option β} {r : β} (h : x.bind f = some r) : ∃ a, x = some a ∧ f a = some r := Option.bind_eq_some_iff.mp h
theorem sound_bin {op l r pos a b} (hl : SoundE prog w G mg mb X Γ d l a) (hr : SoundE prog w G mg mb X Γ d r b) : SoundE prog w G mg mb X Γ d (.BinOp l op r pos) (bBin op a b) := by
  intro B ae st res hB h ρ env s A hA hE S
  obtain ⟨p, h1, h⟩ := bind2 h
  obtain ⟨q, h2, h⟩ := bind2 h
  refine wpAny_BinOp (wpAny_mono (hl B ae st p hB h1 ρ env s A hA hE S) (fun v s1 k1 => ?_) fun _ _ e => e)
  obtain ⟨ρ1, e1, S1, v1⟩ := k1
  refine wpAny_mono (hr B ae _ q hB h2 ρ1 env s1 A hA (hE.mono e1) S1) (fun u s2 k2 => ?_) fun _ _ e => e
  obtain ⟨ρ2, e2, S2, v2⟩ := k2
  exact wpAny_mono (abin_ok h S2 (v1.mono e2) v2) (fun _ _ k => k.up (e1.trans e2)) fun _ _ e => e
theorem aun_ok {B : Base} {op x st r} {ρ : List Addr} {s : Shared} {A : Around} (h : aun op x st = some r) (S : SR B ρ st s) {v : Value} (hv : VR ρ x v) :
    wpAny (model prog w) A (unaryOp op v) (Post B ρ r) NoE s := by
  unfold aun at h
  split at h
  · cases h; obtain ⟨t, rfl⟩ := hv; exact PyProof.Rows.neg_int (Post.here S.toks ⟨_, rfl⟩)
  · cases h; obtain ⟨t, rfl⟩ := hv; exact PyProof.Rows.invert_int (Post.here S.toks ⟨_, rfl⟩)
  · obtain ⟨b, hb, h⟩ := Option.map_eq_some_iff.mp h
    subst h
    exact PySem.not_value (wpAny_mono (atru_ok hb S hv) (fun c s' k => Post.here k.2 (by rw [k.1]; rfl)) fun _ _ e => e)
  · cases h
theorem sound_un {op x pos a} (hx : SoundE prog w G mg mb X Γ d x a) : SoundE prog w G mg mb X Γ d (.UnaryOp op x pos) (bUn op a) := by
  intro B ae st res hB h ρ env s A hA hE S
  obtain ⟨p, h1, h⟩ := bind2 h
  refine wpAny_UnaryOp (wpAny_mono (hx B ae st p hB h1 ρ env s A hA hE S) (fun v s1 k1 => ?_) fun _ _ e => e)
  obtain ⟨ρ1, e1, S1, v1⟩ := k1
  exact wpAny_mono (aun_ok h S1 v1) (fun _ _ k => k.up e1) fun _ _ e => e
theorem sound_cmp {op l r pos a b} (hl : SoundE prog w G mg mb X Γ d l a) (hr : SoundE prog w G mg mb X Γ d r b) (hm : behindInMarks op r = false) : SoundE prog w G mg mb X Γ d (.Compare l [op] [r] pos) (bCmp op a b) := by
  intro B ae st res hB h ρ env s A hA hE S
  obtain ⟨p, h1, h⟩ := bind2 h
  obtain ⟨q, h2, h⟩ := bind2 h
  obtain ⟨c, h3, h⟩ := Option.map_eq_some_iff.mp h
  subst h
  refine wpAny_Compare1 (wpAny_mono (hl B ae st p hB h1 ρ env s A hA hE S) (fun v s1 k1 => ?_) fun _ _ e => e) hm
  obtain ⟨ρ1, e1, S1, v1⟩ := k1
  refine wpAny_mono (hr B ae _ q hB h2 ρ1 env s1 A hA (hE.mono e1) S1) (fun u s2 k2 => ?_) fun _ _ e => e
  obtain ⟨ρ2, e2, S2, v2⟩ := k2
  exact wpAny_mono (acmp_ok h3 hA S2 (v1.mono e2) v2) (fun _ _ k => ⟨ρ2, e1.trans e2, k.2, k.1⟩) fun _ _ e => e
theorem sound_tcmp {op l r pos a b} (hl : SoundE prog w G mg mb X Γ d l a) (hr : SoundE prog w G mg mb X Γ d r b) (hm : behindInMarks op r = false) : SoundT prog w G mg mb X Γ d (.Compare l [op] [r] pos) (tCmp op a b) := by
  intro B ae st res hB h ρ env s A hA hE S
  obtain ⟨p, h1, h⟩ := bind2 h
  obtain ⟨q, h2, h⟩ := bind2 h
  obtain ⟨c, h3, h⟩ := Option.map_eq_some_iff.mp h
  subst h
  refine wpAny_isTrue_Compare1 (wpAny_mono (hl B ae st p hB h1 ρ env s A hA hE S) (fun v s1 k1 => ?_) fun _ _ e => e) hm
  obtain ⟨ρ1, e1, S1, v1⟩ := k1
  refine wpAny_mono (hr B ae _ q hB h2 ρ1 env s1 A hA (hE.mono e1) S1) (fun u s2 k2 => ?_) fun _ _ e => e
  obtain ⟨ρ2, e2, S2, v2⟩ := k2
  refine wpAny_mono (acmp_ok h3 hA S2 (v1.mono e2) v2) (fun c' s3 k => ?_) fun _ _ e => e
  rw [k.1]
  exact wpAny_truthy_bool ⟨ρ2, e1.trans e2, k.2, rfl⟩
theorem sound_tval {e a} (he : SoundE prog w G mg mb X Γ d e a) (hp : plainTruth e = true) : SoundT prog w G mg mb X Γ d e (tVal a) := by
  intro B ae st res hB h ρ env s A hA hE S
  obtain ⟨p, h1, h⟩ := bind2 h
  obtain ⟨c, h3, h⟩ := Option.map_eq_some_iff.mp h
  subst h
  have eq : isTrue e env (eval e env) = (do let v ← eval e env; standAt e.pos; holding [v] (truthy v)) := by
    cases e <;> first | rfl | (simp [plainTruth] at hp; done) | skip
    all_goals (rename_i op _ _; cases op <;> first | rfl | (simp [plainTruth] at hp))
  refine isTrue_plain (wpAny_mono (he B ae st p hB h1 ρ env s A hA hE S) (fun v s1 k1 => ?_) fun _ _ e => e) eq
  obtain ⟨ρ1, e1, S1, v1⟩ := k1
  exact wpAny_mono (atru_ok h3 S1 v1) (fun c' s' k => ⟨ρ1, e1, k.2, k.1⟩) fun _ _ e => e
theorem sound_tnot {e pos a} (he : SoundT prog w G mg mb X Γ d e a) : SoundT prog w G mg mb X Γ d (.UnaryOp .Not e pos) (tNot a) := by
  intro B ae st res hB h ρ env s A hA hE S
  obtain ⟨p, h1, h⟩ := Option.map_eq_some_iff.mp h
  subst h
  refine wpAny_isTrue_Not (wpAny_mono (he B ae st p hB h1 ρ env s A hA hE S) (fun v s1 k1 => ?_) fun _ _ e => e)
  obtain ⟨ρ1, e1, S1, v1⟩ := k1
  exact ⟨ρ1, e1, S1, by rw [v1]⟩
theorem sound_ite {c x y pos a b1 b2} (hc : SoundT prog w G mg mb X Γ d c a) (hx : SoundE prog w G mg mb X Γ d x b1) (hy : SoundE prog w G mg mb X Γ d y b2) : SoundE prog w G mg mb X Γ d (.IfExp c x y pos) (bIte a b1 b2) := by
  intro B ae st res hB h ρ env s A hA hE S
  obtain ⟨p, h1, h⟩ := bind2 h
  refine wpAny_IfExp (wpAny_mono (hc B ae st p hB h1 ρ env s A hA hE S) (fun v s1 k1 => ?_) fun _ _ e => e)
  obtain ⟨ρ1, e1, S1, v1⟩ := k1
  subst v1
  split at h
  · rename_i ht; rw [if_pos ht]; exact wpAny_mono (hx B ae _ res hB h ρ1 env s1 A hA (hE.mono e1) S1) (fun _ _ k => k.up e1) fun _ _ e => e
  · rename_i ht; rw [if_neg ht]; exact wpAny_mono (hy B ae _ res hB h ρ1 env s1 A hA (hE.mono e1) S1) (fun _ _ k => k.up e1) fun _ _ e => e
theorem sound_tite {c x y pos a b1 b2} (hc : SoundT prog w G mg mb X Γ d c a) (hx : SoundT prog w G mg mb X Γ d x b1) (hy : SoundT prog w G mg mb X Γ d y b2) : SoundT prog w G mg mb X Γ d (.IfExp c x y pos) (tIte a b1 b2) := by
  intro B ae st res hB h ρ env s A hA hE S
  obtain ⟨p, h1, h⟩ := bind2 h
  refine isTrue_IfExp (wpAny_mono (hc B ae st p hB h1 ρ env s A hA hE S) (fun v s1 k1 => ?_) fun _ _ e => e)
  obtain ⟨ρ1, e1, S1, v1⟩ := k1
  subst v1
  split at h
  · rename_i ht; rw [if_pos ht]; exact wpAny_mono (hx B ae _ res hB h ρ1 env s1 A hA (hE.mono e1) S1) (fun _ _ k => k.up e1) fun _ _ e => e
  · rename_i ht; rw [if_neg ht]; exact wpAny_mono (hy B ae _ res hB h ρ1 env s1 A hA (hE.mono e1) S1) (fun _ _ k => k.up e1) fun _ _ e => e
theorem sound_tand_nil {pos} : SoundT prog w G mg mb X Γ d (.BoolOp .And [] pos) tTrue := by
  intro B ae st res hB h ρ env s A hA hE S
  cases h
  exact isTrue_and_nil ⟨ρ, List.prefix_refl _, S, rfl⟩
theorem sound_tor_nil {pos} : SoundT prog w G mg mb X Γ d (.BoolOp .Or [] pos) tFalse := by
  intro B ae st res hB h ρ env s A hA hE S
  cases h
  exact isTrue_or_nil ⟨ρ, List.prefix_refl _, S, rfl⟩
def ST2 (prog : Program) (w : World) (G : List (Str × AV)) (mg mb : Str → Option Value) (X : Heap → List TabD → Prop) (Γ : Sc) (d : Nat) (op : BoolOp) (es : List Expr) (a : Act Bool) : Prop := ∀ pos, SoundT prog w G mg mb X Γ d (.BoolOp op es pos) a
theorem isTrue_bool_whole (op es pos) (env : Env) (x y : Sem Value) : isTrue (.BoolOp op es pos) env x = isTrue (.BoolOp op es pos) env y := rfl
theorem sound_tand {x rest a b} (hx : SoundT prog w G mg mb X Γ d x a) (hr : ST2 prog w G mg mb X Γ d .And rest b) : ST2 prog w G mg mb X Γ d .And (x :: rest) (tAnd a b) := by
  intro pos B ae st res hB h ρ env s A hA hE S
  obtain ⟨p, h1, h⟩ := bind2 h
  refine isTrue_and (wpAny_mono (hx B ae st p hB h1 ρ env s A hA hE S) (fun v s1 k1 => ?_) fun _ _ e => e)
  obtain ⟨ρ1, e1, S1, v1⟩ := k1
  subst v1
  split at h
  · rename_i ht; rw [if_pos ht]
    rw [isTrue_bool_whole .And rest pos env _ (eval (.BoolOp .And rest pos) env)]
    exact wpAny_mono (hr pos B ae _ res hB h ρ1 env s1 A hA (hE.mono e1) S1) (fun _ _ k => k.up e1) fun _ _ e => e
  · rename_i ht; rw [if_neg ht]; cases h; exact ⟨ρ1, e1, S1, rfl⟩
theorem sound_tor {x rest a b} (hx : SoundT prog w G mg mb X Γ d x a) (hr : ST2 prog w G mg mb X Γ d .Or rest b) : ST2 prog w G mg mb X Γ d .Or (x :: rest) (tOr a b) := by
  intro pos B ae st res hB h ρ env s A hA hE S
  obtain ⟨p, h1, h⟩ := bind2 h
  refine isTrue_or (wpAny_mono (hx B ae st p hB h1 ρ env s A hA hE S) (fun v s1 k1 => ?_) fun _ _ e => e)
  obtain ⟨ρ1, e1, S1, v1⟩ := k1
  subst v1
  split at h
  · rename_i ht; rw [if_pos ht]; cases h; exact ⟨ρ1, e1, S1, rfl⟩
  · rename_i ht; rw [if_neg ht]
    rw [isTrue_bool_whole .Or rest pos env _ (eval (.BoolOp .Or rest pos) env)]
    exact wpAny_mono (hr pos B ae _ res hB h ρ1 env s1 A hA (hE.mono e1) S1) (fun _ _ k => k.up e1) fun _ _ e => e
theorem sound_and2 {x y pos a b} (hx : SoundE prog w G mg mb X Γ d x a) (hy : SoundE prog w G mg mb X Γ d y b) : SoundE prog w G mg mb X Γ d (.BoolOp .And [x, y] pos) (bAnd a b) := by
  intro B ae st res hB h ρ env s A hA hE S
  obtain ⟨p, h1, h⟩ := bind2 h
  obtain ⟨c, h3, h⟩ := bind2 h
  refine wpAny_And2 (wpAny_mono (hx B ae st p hB h1 ρ env s A hA hE S) (fun v s1 k1 => ?_) fun _ _ e => e)
  obtain ⟨ρ1, e1, S1, v1⟩ := k1
  refine wpAny_mono (atru_ok h3 S1 v1) (fun t s2 k => ?_) fun _ _ e => e
  obtain ⟨rfl, S2⟩ := k
  split at h
  · rename_i ht; rw [if_pos ht]; exact wpAny_mono (hy B ae _ res hB h ρ1 env s2 A hA (hE.mono e1) S2) (fun _ _ k => k.up e1) fun _ _ e => e
  · rename_i ht; rw [if_neg ht]; cases h; exact ⟨ρ1, e1, S2, v1⟩
theorem sound_or2 {x y pos a b} (hx : SoundE prog w G mg mb X Γ d x a) (hy : SoundE prog w G mg mb X Γ d y b) : SoundE prog w G mg mb X Γ d (.BoolOp .Or [x, y] pos) (bOr a b) := by
  intro B ae st res hB h ρ env s A hA hE S
  obtain ⟨p, h1, h⟩ := bind2 h
  obtain ⟨c, h3, h⟩ := bind2 h
  refine wpAny_Or2 (wpAny_mono (hx B ae st p hB h1 ρ env s A hA hE S) (fun v s1 k1 => ?_) fun _ _ e => e)
  obtain ⟨ρ1, e1, S1, v1⟩ := k1
  refine wpAny_mono (atru_ok h3 S1 v1) (fun t s2 k => ?_) fun _ _ e => e
  obtain ⟨rfl, S2⟩ := k
  split at h
  · rename_i ht; rw [if_pos ht]; cases h; exact ⟨ρ1, e1, S2, v1⟩
  · rename_i ht; rw [if_neg ht]; exact wpAny_mono (hy B ae _ res hB h ρ1 env s2 A hA (hE.mono e1) S2) (fun _ _ k => k.up e1) fun _ _ e => e
theorem sound_item {x i pos a b} (hx : SoundE prog w G mg mb X Γ d x a) (hi : SoundE prog w G mg mb X Γ d i b) : SoundE prog w G mg mb X Γ d (.Subscript x i pos) (bItem a b) := by
  intro B ae st res hB h ρ env s A hA hE S
  obtain ⟨p, h1, h⟩ := bind2 h
  obtain ⟨q, h2, h⟩ := bind2 h
  refine Subscript_base (wpAny_mono (hx B ae st p hB h1 ρ env s A hA hE S) (fun v s1 k1 => ?_) fun _ _ e => e)
  obtain ⟨ρ1, e1, S1, v1⟩ := k1
  refine wpAny_mono (hi B ae _ q hB h2 ρ1 env s1 A hA (hE.mono e1) S1) (fun u s2 k2 => ?_) fun _ _ e => e
  obtain ⟨ρ2, e2, S2, v2⟩ := k2
  obtain ⟨T, id, t1, t2, t3⟩ := aitem_ok (prog := prog) (w := w) (A := A) h S2 (v1.mono e2) v2
  exact ⟨T, id, t1, t2, wpAny_mono t3 (fun _ _ k => k.up (e1.trans e2)) fun _ _ e => e⟩
def SP (prog : Program) (w : World) (G : List (Str × AV)) (mg mb : Str → Option Value) (X : Heap → List TabD → Prop) (Γ : Sc) (d : Nat) (e : Option Expr) (a : Act AV) : Prop := match e with
  | some e => SoundE prog w G mg mb X Γ d e a
  | .none => a = bVal .none
theorem SP.ok {e : Option Expr} {a : Act AV} (h : SP prog w G mg mb X Γ d e a) {B : Base} {ae st r} (hB : GoodB G mg mb X B) (hr : a ae st = some r) {ρ : List Addr} {env : Env} {s : Shared} {A : Around} (hA : Room A d) (hE : ER Γ ρ ae env) (S : SR B ρ st s) :
    wpAny (model prog w) A (evalPart e env) (Post B ρ r) NoE s := by
  cases e with
  | none => obtain rfl := h; cases hr; exact wpAny_pure (Post.here S rfl)
  | some e => exact h B ae st r hB hr ρ env s A hA hE S
theorem sound_slice {x lo hi p pos a b c} (hx : SoundE prog w G mg mb X Γ d x a) (hl : SP prog w G mg mb X Γ d lo b) (hh : SP prog w G mg mb X Γ d hi c) : SoundE prog w G mg mb X Γ d (.Subscript x (.Slice lo hi .none p) pos) (bSlice a b c) := by
  intro B ae st res hB h ρ env s A hA hE S
  obtain ⟨p, h1, h⟩ := bind2 h
  obtain ⟨q, h2, h⟩ := bind2 h
  obtain ⟨u, h3, h⟩ := bind2 h
  refine Subscript_base (wpAny_mono (hx B ae st p hB h1 ρ env s A hA hE S) (fun v s1 k1 => wpAny_Slice ?_) fun _ _ e => e)
  obtain ⟨ρ1, e1, S1, v1⟩ := k1
  refine wpAny_mono (hl.ok hB h2 hA (hE.mono e1) S1) (fun vl s2 k2 => ?_) fun _ _ e => e
  obtain ⟨ρ2, e2, S2, v2⟩ := k2
  refine wpAny_mono (hh.ok hB h3 hA (hE.mono (e1.trans e2)) S2) (fun vu s3 k3 => ?_) fun _ _ e => e
  obtain ⟨ρ3, e3, S3, v3⟩ := k3
  rw [evalPart_none]
  refine wpAny_pure ?_
  obtain ⟨T, id, t1, t2, t3⟩ := aslice_ok (prog := prog) (w := w) (A := A) h S3 (v1.mono (e2.trans e3)) (v2.mono e3) v3
  exact ⟨T, id, t1, t2, wpAny_mono t3 (fun _ _ k => k.up (e1.trans (e2.trans e3))) fun _ _ e => e⟩
def SL (prog : Program) (w : World) (G : List (Str × AV)) (mg mb : Str → Option Value) (X : Heap → List TabD → Prop) (Γ : Sc) (d : Nat) (es : List Expr) (a : Act (List AV)) : Prop :=
  ∀ (B : Base) (ae : AEnv) (st : St) (r : List AV × St), GoodB G mg mb X B → a ae st = some r → ∀ (ρ : List Addr) (env : Env) (s : Shared) (A : Around) (pos : Pos), Room A d → ER Γ ρ ae env → SR B ρ st s →
    wpAny (model prog w) A (spliced (backTo pos (starEach es env))) (PostL B ρ r) NoE s
theorem backTo_cons (pos : Pos) (t : Sem Value) (l : List (Bool × Sem Value)) : backTo pos ((false, t) :: l) = (false, t) :: backTo pos l := rfl
theorem sl_nil : SL prog w G mg mb X Γ d [] lNil := by
  intro B ae st r hB h ρ env s A pos hA hE S
  cases h
  exact wpAny_items_nil ⟨ρ, List.prefix_refl _, S, .nil⟩
theorem starEach_cons {e : Expr} {rest : List Expr} {env : Env} (h : isStarred e = false) : starEach (e :: rest) env = (false, eval e env) :: starEach rest env := by
  cases e <;> first | rfl | (simp [isStarred] at h)
theorem sl_cons {e rest a b} (he : SoundE prog w G mg mb X Γ d e a) (hr : SL prog w G mg mb X Γ d rest b) (hs : isStarred e = false) : SL prog w G mg mb X Γ d (e :: rest) (lCons a b) := by
  intro B ae st r hB h ρ env s A pos hA hE S
  obtain ⟨p, h1, h⟩ := bind2 h
  obtain ⟨q, h2, h⟩ := Option.map_eq_some_iff.mp h
  subst h
  refine wpAny_items_cons (wpAny_mono (he B ae st p hB h1 ρ env s A hA hE S) (fun v s1 k1 => ?_) fun _ _ e => e) (starEach_cons hs)
  obtain ⟨ρ1, e1, S1, v1⟩ := k1
  refine wpAny_mono (hr B ae _ q hB h2 ρ1 env s1 A pos hA (hE.mono e1) S1) (fun vs s2 k2 => ?_) fun _ _ e => e
  obtain ⟨ρ2, e2, S2, v2⟩ := k2
  exact ⟨ρ2, e1.trans e2, S2, .cons (v1.mono e2) v2⟩
theorem sound_list {es pos a} (h : SL prog w G mg mb X Γ d es a) : SoundE prog w G mg mb X Γ d (.List es pos) (bList a) := by
  intro B ae st res hB hr ρ env s A hA hE S
  obtain ⟨p, h1, hr⟩ := bind2 hr
  split at hr
  · rename_i hlen
    cases hr
    refine wpAny_List (wpAny_mono (h B ae st p hB h1 ρ env s A pos hA hE S) (fun vs s1 k1 => ?_) fun _ _ e => e)
    obtain ⟨ρ1, e1, S1, v1⟩ := k1
    exact ⟨by have := v1.length; have := sizeLine_eq; omega, (S1.pushList (tk := s1.toks) v1).up e1⟩
  · cases hr
theorem sound_tup {es k pos a} (h : SL prog w G mg mb X Γ d es a) : SoundE prog w G mg mb X Γ d (.Tuple es k pos) (bTup a) := by
  intro B ae st res hB hr ρ env s A hA hE S
  obtain ⟨p, h1, hr⟩ := bind2 hr
  split at hr
  · rename_i hlen
    cases hr
    refine wpAny_Tuple (wpAny_mono (h B ae st p hB h1 ρ env s A pos hA hE S) (fun vs s1 k1 => ?_) fun _ _ e => e)
    obtain ⟨ρ1, e1, S1, v1⟩ := k1
    exact ⟨by have := v1.length; have := sizeLine_eq; omega, (S1.pushTup (tk := s1.toks) v1).up e1⟩
  · cases hr
end
abbrev CallF := AV → List AV → List (Str × AV) → St → Option (AV × St)
abbrev MethF := AV → Str → St → Option (AV × List AV)
def KwR (ρ : List Addr) (kw : List (Str × AV)) (kvs : List (Str × Value)) : Prop := All2 (fun p q => p.1 = q.1 ∧ VR ρ p.2 q.2) kw kvs
theorem KwR.mono {ρ ρ' : List Addr} (h : ρ <+: ρ') {kw kvs} (x : KwR ρ kw kvs) : KwR ρ' kw kvs := All2.mono (fun _ _ y => ⟨y.1, y.2.mono h⟩) x
section
variable (prog : Program) (w : World) (G : List (Str × AV)) (mg mb : Str → Option Value) (X : Heap → List TabD → Prop)
def KeeperOk (A : Around) (fv : Value) (s : Shared) : Prop := ∀ (Q : Keeper → Shared → Prop), (∀ k, Q k s) → wpAny (model prog w) A (keeperOf fv) Q NoE s
def SoundC (d : Nat) (c : CallF) : Prop :=
  ∀ (B : Base) (f : AV) (args : List AV) (kw : List (Str × AV)) (st : St) (r : AV × St), GoodB G mg mb X B → c f args kw st = some r →
    ∀ (ρ : List Addr) (fv : Value) (vs : List Value) (kvs : List (Str × Value)) (s : Shared) (A : Around), Room A d → VR ρ f fv → All2 (VR ρ) args vs → KwR ρ kw kvs → SR B ρ st s →
      KeeperOk prog w A fv s ∧ wpAny (model prog w) A (call fv vs kvs) (Post B ρ r) NoE s
def SoundCC (d : Nat) (c : CallF) : Prop :=
  ∀ (B : Base) (f : AV) (args : List AV) (kw : List (Str × AV)) (st : St) (r : AV × St), GoodB G mg mb X B → c f args kw st = some r →
    ∀ (ρ : List Addr) (fv : Value) (vs : List Value) (kvs : List (Str × Value)) (s : Shared) (A : Around), Room A d → VR ρ f fv → All2 (VR ρ) args vs → KwR ρ kw kvs → SR B ρ st s →
      KeeperOk prog w A fv s ∧ codeAny (model prog w) A (.call fv ⟨vs, kvs⟩) (fun x s' => match x with | .ok (.ret v) => Post B ρ r v s' | .ok _ => False | .error _ => False) s
def SoundM (d : Nat) (m : MethF) : Prop :=
  ∀ (B : Base) (x : AV) (name : Str) (st : St) (r : AV × List AV), GoodB G mg mb X B → m x name st = some r →
    ∀ (ρ : List Addr) (v : Value) (s : Shared) (A : Around) (pl : Sem Bool), Room A d → VR ρ x v → SR B ρ st s →
      wpAny (model prog w) A (getMethod v name pl) (fun fx s' => SR B ρ st s' ∧ VR ρ r.1 fx.1 ∧ All2 (VR ρ) r.2 fx.2) NoE s
end
def kNil : Act (List (Str × AV)) := fun _ st => some ([], st)
def kOne (n : Str) (a : Act AV) : Act (List (Str × AV)) := fun ae st => (a ae st).map fun p => ([(n, p.1)], p.2)
def bCall (c : CallF) (f : Act AV) (args : Act (List AV)) (kw : Act (List (Str × AV))) : Act AV := fun ae st =>
  (f ae st).bind fun p => (args ae p.2).bind fun q => (kw ae q.2).bind fun k => c p.1 q.1 k.1 k.2
def bMeth (c : CallF) (m : MethF) (o : Act AV) (name : Str) (args : Act (List AV)) (kw : Act (List (Str × AV))) : Act AV := fun ae st =>
  (o ae st).bind fun p => (m p.1 name p.2).bind fun f => (args ae p.2).bind fun q => (kw ae q.2).bind fun k => c f.1 (f.2 ++ q.1) k.1 k.2
def plainBase : Expr → Bool
  | .Call (.Name _ _) [] [] _ => false
  | _ => true
section
variable {prog : Program} {w : World} {G : List (Str × AV)} {mg mb : Str → Option Value} {X : Heap → List TabD → Prop} {Γ : Sc} {d : Nat} {A : Around} {s : Shared} {E : Value → Shared → Prop}
theorem callWith_base {pos : Pos} {f : Value} {first : List Value} {args : List (Bool × Sem Value)} {keywords : List (Option Str × Sem Value)} {Q : Value → Shared → Prop}
    (h : wpAny (model prog w) A (evalArgs f true args keywords) (fun a s₁ => KeeperOk prog w A f s₁ ∧ wpAny (model prog w) A (call f (first ++ a.pos) a.kw) Q NoE s₁) NoE s) :
    wpAny (model prog w) A (callWith pos f first args keywords) Q NoE s := by
  unfold callWith
  refine wpAny_bind (wpAny_holding (wpAny_mono h (fun x s₁ h₁ => wpAny_bind (wpAny_standAt ?_)) fun _ _ x => x))
  obtain ⟨hk, hc⟩ := h₁
  have tail : ∀ {t : Sem Value}, wpAny (model prog w) A t Q NoE s₁ → wpAny (model prog w) A (t >>= fun r => holding [r] point >>= fun _ => pure r) Q NoE s₁ :=
    fun ht => wpAny_bind (wpAny_mono ht (fun r s₂ hr => wpAny_bind (wpAny_holding (wpAny_point (wpAny_pure hr)))) fun _ _ x => x)
  have km : ∀ m, wpAny (model prog w) A (callMarked m f (first ++ x.pos) x.kw) Q NoE s₁ := fun m => by unfold callMarked; exact wpAny_keep hc
  refine wpAny_bind (hk _ fun k => ?_)
  cases hs : (args.any (·.1) || keywords.any (·.1.isNone)) <;> cases k <;> simp only [] <;> first
    | exact tail (km _)
    | exact tail hc
    | exact tail (wpAny_operating hc)
    | (refine wpAny_ite ?_; split <;> first | exact tail (km _) | exact tail hc)
    | (split <;> first | exact tail (km _) | exact tail hc)
def SK (prog : Program) (w : World) (G : List (Str × AV)) (mg mb : Str → Option Value) (X : Heap → List TabD → Prop) (Γ : Sc) (d : Nat) (ks : List Keyword) (a : Act (List (Str × AV))) : Prop := match ks with
  | [] => a = kNil
  | [k] => match k.arg with
    | some n => ∃ b, a = kOne n b ∧ SoundE prog w G mg mb X Γ d k.value b
    | .none => False
  | _ => False
theorem starEach_flags {env : Env} : ∀ {es : List Expr}, es.all (fun e => !isStarred e) = true → ∀ pos, (backTo pos (starEach es env)).all (fun x => !x.1) = true
  | [], _, _ => rfl
  | e :: es, h, pos => by
    simp only [List.all_cons, Bool.and_eq_true, Bool.not_eq_true'] at h
    rw [starEach_cons h.1, backTo_cons]
    simp only [List.all_cons, Bool.not_false, Bool.true_and]
    exact starEach_flags h.2 pos
theorem evalArgs_base {B : Base} {ρ : List Addr} {ae : AEnv} {env : Env} {st : St} {es : List Expr} {ks : List Keyword} {pos : Pos} {f : Value} {a : Act (List AV)} {k : Act (List (Str × AV))} {p : List AV × St} {q : List (Str × AV) × St} {Q : Args → Shared → Prop}
    (hB : GoodB G mg mb X B) (hes : SL prog w G mg mb X Γ d es a) (hst : es.all (fun e => !isStarred e) = true) (hks : SK prog w G mg mb X Γ d ks k) (h1 : a ae st = some p) (h2 : k ae p.2 = some q) (hA : Room A d) (hE : ER Γ ρ ae env) (S : SR B ρ st s)
    (h : ∀ ρ' vs kvs s', ρ <+: ρ' → SR B ρ' q.2 s' → All2 (VR ρ') p.1 vs → KwR ρ' q.1 kvs → Q ⟨vs, kvs⟩ s') :
    wpAny (model prog w) A (evalArgs f true (backTo pos (starEach es env)) (backToKw pos (keywordEach ks env))) Q NoE s := by
  have sp := hes B ae st p hB h1 ρ env s A pos hA hE S
  have flags : ∀ t r, backTo pos (starEach es env) = t :: r → t.1 = false := fun t r e => by
    have := starEach_flags (env := env) hst pos
    rw [e] at this
    simp only [List.all_cons, Bool.and_eq_true, Bool.not_eq_true'] at this
    exact this.1
  cases ks with
  | nil =>
    obtain rfl := hks
    cases h2
    have fin : ∀ v s1, PostL B ρ p v s1 → Q ⟨v, []⟩ s1 := fun v s1 ⟨ρ1, e1, S1, v1⟩ => h ρ1 v [] s1 e1 S1 v1 .nil
    cases hx : backTo pos (starEach es env) with
    | nil =>
      rw [hx] at sp
      have := wpAny_mono sp (Q' := fun v s1 => Q ⟨v, []⟩ s1) fin fun _ _ e => e
      show wpAny _ _ (evalArgs f true [] []) Q NoE s
      unfold evalArgs
      show wpAny _ A (spliced [] >>= _) Q NoE s
      exact wpAny_bind (wpAny_mono this (fun vs s' h' => wpAny_bind (wpAny_pure (wpAny_holding (wpAny_bind (wpAny_pure (wpAny_bind (wpAny_pure (wpAny_pure h')))))))) fun _ _ e => e)
    | cons t r =>
      obtain ⟨b, t⟩ := t
      have := flags _ _ hx
      simp only at this
      subst this
      rw [hx] at sp
      exact evalArgs_plain (wpAny_mono sp fin fun _ _ e => e)
  | cons kw rest =>
    cases rest with
    | cons _ _ => exact hks.elim
    | nil =>
      obtain ⟨nm, value, kpos⟩ := kw
      cases nm with
      | none => exact hks.elim
      | some n =>
        obtain ⟨b, rfl, hb⟩ := hks
        obtain ⟨u, h3, h2⟩ := Option.map_eq_some_iff.mp h2
        subst h2
        have fin : ∀ v s1, PostL B ρ p v s1 → wpAny (model prog w) A (evalAll ((backToKw pos (keywordEach [⟨some n, value, kpos⟩] env)).map (·.2))) (fun ks s₂ => Q ⟨v, ((backToKw pos (keywordEach [⟨some n, value, kpos⟩] env)).filterMap (·.1)).zip ks⟩ s₂) NoE s1 := by
          rintro v s1 ⟨ρ1, e1, S1, v1⟩
          refine wpAny_evalAll_cons ?_
          refine wpAny_bind (wpAny_mono (hb B ae _ u hB h3 ρ1 env s1 A hA (hE.mono e1) S1) (fun x s2 k2 => ?_) fun _ _ e => e)
          obtain ⟨ρ2, e2, S2, v2⟩ := k2
          refine wpAny_bind (wpAny_standAt (wpAny_pure (wpAny_evalAll_nil ?_)))
          exact h ρ2 v [(n, x)] s2 (e1.trans e2) S2 (v1.mono fun _ _ => VR.mono e2) (.cons ⟨rfl, v2⟩ .nil)
        cases hx : backTo pos (starEach es env) with
        | nil =>
          rw [hx] at sp
          refine evalArgs_kw_nil rfl ?_
          have := wpAny_mono sp fin fun _ _ e => e
          exact fun Γ' p' hΓ => (this Γ' p' hΓ) Γ' p' hΓ
        | cons t r =>
          obtain ⟨b', t⟩ := t
          have := flags _ _ hx
          simp only at this
          subst this
          rw [hx] at sp
          exact evalArgs_kw rfl (wpAny_mono sp fin fun _ _ e => e)
end
section
variable {prog : Program} {w : World} {G : List (Str × AV)} {mg mb : Str → Option Value} {X : Heap → List TabD → Prop} {Γ : Sc} {d : Nat} {A : Around} {s : Shared} {E : Value → Shared → Prop}
theorem eval_Call_Name (x : Str) (p : Pos) (args : List Expr) (kws : List Keyword) (pos : Pos) (env : Env) : eval (.Call (.Name x p) args kws pos) env =
    (do let f ← eval (.Name x p) env; callWith pos f [] (backTo pos (starEach args env)) (backToKw pos (keywordEach kws env))) := rfl
theorem sound_call {c : CallF} {x : Str} {p pos : Pos} {args : List Expr} {kws : List Keyword} {f a k} (hc : SoundC prog w G mg mb X d c) (hf : SoundE prog w G mg mb X Γ d (.Name x p) f) (ha : SL prog w G mg mb X Γ d args a) (hst : args.all (fun e => !isStarred e) = true)
    (hk : SK prog w G mg mb X Γ d kws k) : SoundE prog w G mg mb X Γ d (.Call (.Name x p) args kws pos) (bCall c f a k) := by
  intro B ae st res hB h ρ env s A hA hE S
  obtain ⟨p1, h1, h⟩ := bind2 h
  obtain ⟨p2, h2, h⟩ := bind2 h
  obtain ⟨p3, h3, h⟩ := bind2 h
  rw [eval_Call_Name]
  refine wpAny_bind (wpAny_mono (hf B ae st p1 hB h1 ρ env s A hA hE S) (fun v s1 k1 => ?_) fun _ _ e => e)
  obtain ⟨ρ1, e1, S1, v1⟩ := k1
  refine callWith_base (evalArgs_base hB ha hst hk h2 h3 hA (hE.mono e1) S1 fun ρ2 vs kvs s2 e2 S2 v2 k2 => ?_)
  obtain ⟨g1, g2⟩ := hc B p1.1 p2.1 p3.1 p3.2 res hB h ρ2 v vs kvs s2 A hA (v1.mono e2) v2 k2 S2
  exact ⟨g1, wpAny_mono g2 (fun _ _ k => k.up (e1.trans e2)) fun _ _ e => e⟩
theorem attributeBase_plain {o : Expr} (h : plainBase o = true) (attr : Str) (env : Env) (whole : Sem Value) : attributeBase o attr env whole = whole := by
  unfold attributeBase
  split
  · simp [plainBase] at h
  · rfl
theorem kwEach_some {env : Env} {ks : List Keyword} {k : Act (List (Str × AV))} (hk : SK prog w G mg mb X Γ d ks k) (pos : Pos) : (backToKw pos (keywordEach ks env)).all (·.1.isSome) = true ∧ ks.length ≤ 1 := by
  cases ks with
  | nil => exact ⟨rfl, Nat.zero_le _⟩
  | cons kw rest =>
    cases rest with
    | cons _ _ => exact hk.elim
    | nil =>
      obtain ⟨nm, value, kpos⟩ := kw
      cases nm with
      | none => exact hk.elim
      | some n => exact ⟨rfl, Nat.le_refl _⟩
theorem sound_meth {c : CallF} {m : MethF} {o : Expr} {name : Str} {apos pos : Pos} {args : List Expr} {kws : List Keyword} {b a k} (hc : SoundC prog w G mg mb X d c) (hm : SoundM prog w G mg mb X d m) (ho : SoundE prog w G mg mb X Γ d o b) (ha : SL prog w G mg mb X Γ d args a) (hst : args.all (fun e => !isStarred e) = true)
    (hk : SK prog w G mg mb X Γ d kws k) (hb : plainBase o = true) (hline : (apos.endLine == pos.line) = true) (hn : args.length < 20) : SoundE prog w G mg mb X Γ d (.Call (.Attribute o name apos) args kws pos) (bMeth c m b name a k) := by
  intro B ae st res hB h ρ env s A hA hE S
  obtain ⟨p1, h1, h⟩ := bind2 h
  obtain ⟨f, hf, h⟩ := bind2 h
  obtain ⟨p2, h2, h⟩ := bind2 h
  obtain ⟨p3, h3, h⟩ := bind2 h
  rw [arm_eval_Call, attributeBase_plain hb]
  refine wpAny_bind (wpAny_mono (ho B ae st p1 hB h1 ρ env s A hA hE S) (fun v s1 k1 => wpAny_bind (wpAny_standAt ?_)) fun _ _ e => e)
  obtain ⟨ρ1, e1, S1, v1⟩ := k1
  have few : methodCallForm (args.length + kws.length) (backTo pos (starEach args env)) (backToKw pos (keywordEach kws env)) = true := by
    unfold methodCallForm
    have q := kwEach_some (env := env) hk pos
    rw [starEach_flags hst pos, q.1]
    simp only [Bool.true_and, decide_eq_true_eq]
    have := q.2
    split <;> omega
  unfold methodCall
  rw [few]
  have hpos : methodCallPos true o env apos pos = pure pos := by
    unfold methodCallPos
    rw [hline]; rfl
  rw [hpos]
  refine wpAny_bind (wpAny_holding ?_)
  show wpAny _ A (getMethod v name _) _ _ _
  refine wpAny_mono (hm B p1.1 name p1.2 f hB hf ρ1 v s1 A _ hA v1 S1) (fun fx s2 k2 => ?_) fun _ _ e => e
  obtain ⟨S2, f1, f2⟩ := k2
  refine wpAny_bind (wpAny_pure ?_)
  refine callWith_base (evalArgs_base hB ha hst hk h2 h3 hA (hE.mono e1) S2 fun ρ2 vs kvs s3 e2 S3 v2 k2 => ?_)
  obtain ⟨g1, g2⟩ := hc B f.1 (f.2 ++ p2.1) p3.1 p3.2 res hB h ρ2 fx.1 (fx.2 ++ vs) kvs s3 A hA (f1.mono e2) ((f2.mono fun _ _ => VR.mono e2).append v2) k2 S3
  exact ⟨g1, wpAny_mono g2 (fun _ _ k => k.up (e1.trans e2)) fun _ _ e => e⟩
end
abbrev TAct := AV → AEnv → St → Option St
def gLoc (nm : List Str) (i : Nat) : TAct := fun v ae st => match st[ae.fr]? with
  | some (.ns nm' m) => if nm' = nm then some (st.set ae.fr (.ns nm (m.set i (some v)))) else .none
  | _ => .none
def gCell (j : Nat) : TAct := fun v ae st => match ae.cells[j]? with
  | some k => (match st[k]? with | some (.cell _) => some (st.set k (.cell (some v))) | _ => .none)
  | .none => .none
def asetitem (x i v : AV) (st : St) : Option St := match x, i with
  | .ref k, .int i => (match st[k]? with
    | some (.list xs) => if 0 ≤ i ∧ i < 2 ^ 60 ∧ i < (xs.length : Int) then some (st.set k (.list (xs.set i.toNat v))) else .none
    | _ => .none)
  | _, _ => .none
def gItem (a i : Act AV) : TAct := fun v ae st => (a ae st).bind fun p => (i ae p.2).bind fun q => asetitem p.1 q.1 v q.2
def gAll : List TAct → List AV → AEnv → St → Option St
  | [], [], _, st => some st
  | t :: ts, x :: xs, ae, st => (t x ae st).bind fun st' => gAll ts xs ae st'
  | _, _, _, _ => .none
def tupAt (st : St) (k : Nat) : Option (List AV) := match st[k]? with
  | some (.tup xs) => some xs
  | _ => .none
def gTup (ts : List TAct) : TAct := fun v ae st => match v with
  | .ref k => (tupAt st k).bind fun xs => if xs.length = ts.length then gAll ts xs ae st else .none
  | _ => .none
inductive AFlow where
  | next
  | brk
  | cont
  | ret (v : AV)
def FR (ρ : List Addr) : AFlow → Flow → Prop
  | .next, f => f = .next
  | .brk, f => f = .brk
  | .cont, f => f = .cont
  | .ret v, f => ∃ v', f = .ret v' ∧ VR ρ v v'
theorem FR.mono {ρ ρ' : List Addr} (h : ρ <+: ρ') : ∀ {a f}, FR ρ a f → FR ρ' a f
  | .next, _, x => x
  | .brk, _, x => x
  | .cont, _, x => x
  | .ret _, _, ⟨v, e, r⟩ => ⟨v, e, r.mono h⟩
def PostF (B : Base) (ρ : List Addr) (r : AFlow × St) : Flow → Shared → Prop := fun f s' => ∃ ρ', ρ <+: ρ' ∧ SR B ρ' r.2 s' ∧ FR ρ' r.1 f
theorem PostF.up {B : Base} {ρ ρ' : List Addr} {r : AFlow × St} {f : Flow} {s : Shared} (h : ρ <+: ρ') (p : PostF B ρ' r f s) : PostF B ρ r f s := let ⟨q, a, b, c⟩ := p; ⟨q, h.trans a, b, c⟩
section
variable (prog : Program) (w : World) (G : List (Str × AV)) (mg mb : Str → Option Value) (X : Heap → List TabD → Prop)
def SoundG (Γ : Sc) (d : Nat) (t : Expr) (a : TAct) : Prop :=
  ∀ (B : Base) (x : AV) (ae : AEnv) (st st' : St), GoodB G mg mb X B → a x ae st = some st' → ∀ (ρ : List Addr) (env : Env) (s : Shared) (A : Around) (v : Value), Room A d → ER Γ ρ ae env → VR ρ x v → SR B ρ st s →
    wpAny (model prog w) A (assign t env v) (PostU B ρ st') NoE s
def SoundX (Γ : Sc) (d : Nat) (e : Stmt) (a : Act AFlow) : Prop :=
  ∀ (B : Base) (ae : AEnv) (st : St) (r : AFlow × St), GoodB G mg mb X B → a ae st = some r → ∀ (ρ : List Addr) (env : Env) (s : Shared) (A : Around), Room A d → ER Γ ρ ae env → SR B ρ st s →
    wpAny (model prog w) A (exec e env) (PostF B ρ r) NoE s
def SoundXs (Γ : Sc) (d : Nat) (e : List Stmt) (a : Act AFlow) : Prop :=
  ∀ (B : Base) (ae : AEnv) (st : St) (r : AFlow × St), GoodB G mg mb X B → a ae st = some r → ∀ (ρ : List Addr) (env : Env) (s : Shared) (A : Around), Room A d → ER Γ ρ ae env → SR B ρ st s →
    wpAny (model prog w) A (execs e env) (PostF B ρ r) NoE s
end
section
variable {prog : Program} {w : World} {G : List (Str × AV)} {mg mb : Str → Option Value} {X : Heap → List TabD → Prop} {Γ : Sc} {d : Nat} {A : Around} {s : Shared} {B : Base} {ρ : List Addr} {st : St}
theorem ns_to {nm : List Str} {m : List (Option AV)} {ρ : List Addr} {h : Heap} {a : Addr} {mm : Str → Option Value} (hns : h.Ns a mm) (hl : m.length = nm.length) (hall : ∀ x, x ∈ nm → OptR (VR ρ) (m.getD (nm.idxOf x) .none) (mm x)) :
    ∃ o, h.get? a = some o ∧ OR ρ (.ns nm m) o := by
  obtain ⟨o, es, ep, ho, hd, hk, hf⟩ := hns
  exact ⟨o, ho, es, ep, hd, hk, hl, fun x hx => by rw [hf x]; exact hall x hx⟩
theorem idx_ne {nm : List Str} {x y : Str} (hx : x ∈ nm) (hy : y ∈ nm) (h : y ≠ x) : nm.idxOf y ≠ nm.idxOf x := fun e => h (by
  have h1 := idx_get hx
  have h2 := idx_get hy
  rw [e, h1] at h2
  exact (Option.some.inj h2).symm)
theorem not_class {ae : AEnv} {env : Env} (hE : ER Γ ρ ae env) : (env.scope.kind == .class || (env.scope.kind == .module && env.locals != env.globals)) = false := by
  rw [hE.scope, hE.kind]; rfl
theorem store_loc {x : Str} (hx : Γ.scope.names.lookup x = some .local) (hm : x ∈ Γ.nm) {v : AV} {v' : Value} {ae : AEnv} {env : Env} {st' : St} (h : gLoc Γ.nm (Γ.nm.idxOf x) v ae st = some st') (hE : ER Γ ρ ae env) (hv : VR ρ v v') (S : SR B ρ st s) :
    wpAny (model prog w) A (storeName env x v') (PostU B ρ st') NoE s := by
  unfold gLoc at h
  split at h
  · rename_i nm' m hst
    split at h
    · rename_i hnm
      subst hnm
      cases h
      obtain ⟨a, o, ha, ho, hor⟩ := S.addr hst
      have : a = env.locals := by have := hE.loc; rw [ha] at this; exact Option.some.inj this
      subst this
      obtain ⟨mm, hns, hl, hall⟩ := ns_of ho hor
      refine wpAny_storeName_local ((hE.kindOf x).trans hx) hns (fun h' hn' hs' => ?_) (not_class hE)
      have hidx := List.idxOf_lt_length_of_mem hm
      obtain ⟨o', ho', hor'⟩ := ns_to (nm := Γ.nm) (m := m.set (Γ.nm.idxOf x) (some v)) (ρ := ρ) hn' (by simpa using hl) (fun y hy => by
        by_cases e : y = x
        · subst e
          rw [if_pos rfl, List.getD_eq_getElem?_getD, List.getElem?_set_self (by rw [hl]; exact hidx)]
          exact hv
        · rw [if_neg e, List.getD_eq_getElem?_getD, List.getElem?_set_ne (Ne.symm (idx_ne hm hy e)), ← List.getD_eq_getElem?_getD]
          exact hall y hy)
      exact ⟨ρ, List.prefix_refl _, S.update ha hst rfl (fun b ob hb e => (hs'.2 b hb).trans e) ho' hor'⟩
    · cases h
  · cases h
theorem store_cell {x : Str} (hx : Γ.scope.names.lookup x = some .cell) (hm : x ∈ Γ.cn) {v : AV} {v' : Value} {ae : AEnv} {env : Env} {st' : St} (h : gCell (Γ.cn.idxOf x) v ae st = some st') (hE : ER Γ ρ ae env) (hv : VR ρ v v') (S : SR B ρ st s) :
    wpAny (model prog w) A (storeName env x v') (PostU B ρ st') NoE s := by
  unfold gCell at h
  split at h
  · rename_i k hk
    split at h
    · rename_i v0 hst
      cases h
      obtain ⟨c, hc, hl⟩ := hE.cells x k hm hk
      obtain ⟨o, ho, hor⟩ := S.obj k c _ hc hst
      obtain ⟨v'', hcell, _⟩ := cell_of ho hor
      refine wpAny_storeName_cell (hE.scope ▸ hE.kind) ((hE.kindOf x).trans hx) hl hcell fun h' hc' hs' => ?_
      obtain ⟨o', ho', hd'⟩ := hc'
      exact ⟨ρ, List.prefix_refl _, S.update (tk := s.toks) hc hst rfl (fun b ob hb e => (hs'.2 b hb).trans e) ho' ⟨_, hd', hv⟩⟩
    · cases h
  · cases h
theorem setitem_ok {x i v : AV} {st' : St} (h : asetitem x i v st = some st') (S : SR B ρ st s) {xv iv vv : Value} (hx : VR ρ x xv) (hi : VR ρ i iv) (hv : VR ρ v vv) :
    wpAny (model prog w) A (setItem xv iv vv) (PostU B ρ st') NoE s := by
  unfold asetitem at h
  split at h
  · rename_i k i
    obtain ⟨a, ha, rfl⟩ := hx; obtain ⟨t, rfl⟩ := hi
    split at h
    · rename_i xs hst
      split at h
      · rename_i hb
        cases h
        obtain ⟨o, ho, hor⟩ := S.obj _ _ _ ha hst
        obtain ⟨vs, n, hl, hvs⟩ := list_of ho hor
        have e := hvs.length
        refine ki_setAt hl hb.1 (by omega) (by simp only [List.size_toArray]; omega) ⟨ρ, List.prefix_refl _, S.update (tk := s.toks) ha hst rfl (fun b ob hne e => (Heap.get?_update_other _ _ (Ne.symm hne)).trans e) (Heap.get?_update_self _ hl rfl) ?_⟩
        refine ⟨vs.set i.toNat vv, n, ?_, hvs.set _ hv⟩
        show Obj.mk _ _ _ _ = _
        simp
      · cases h
    · cases h
  · cases h
theorem sound_gitem {o i : Expr} {pos : Pos} {a b : Act AV} (ho : SoundE prog w G mg mb X Γ d o a) (hi : SoundE prog w G mg mb X Γ d i b) : SoundG prog w G mg mb X Γ d (.Subscript o i pos) (gItem a b) := by
  intro B v ae st st' hB h ρ env s A v' hA hE hv S
  obtain ⟨p, h1, h⟩ := bind2 h
  obtain ⟨q, h2, h⟩ := bind2 h
  rw [arm_assign_Subscript]
  refine wpAny_bind (wpAny_holding (wpAny_mono (ho B ae st p hB h1 ρ env s A hA hE S) (fun ov s1 k1 => ?_) fun _ _ e => e))
  obtain ⟨ρ1, e1, S1, v1⟩ := k1
  refine wpAny_bind (wpAny_holding (wpAny_mono (hi B ae _ q hB h2 ρ1 env s1 A hA (hE.mono e1) S1) (fun iv s2 k2 => ?_) fun _ _ e => e))
  obtain ⟨ρ2, e2, S2, v2⟩ := k2
  refine wpAny_bind (wpAny_standAt (wpAny_bind (wpAny_holding (wpAny_mono (setitem_ok h S2 (v1.mono e2) v2 (hv.mono (e1.trans e2))) (fun u s3 k3 => ?_) fun _ _ e => e))))
  have k4 := k3.up (e1.trans e2)
  exact fun Γ' p' _ => by rw [Sem.wp_release]; exact k4
inductive SGs (prog : Program) (w : World) (G : List (Str × AV)) (mg mb : Str → Option Value) (X : Heap → List TabD → Prop) (Γ : Sc) (d : Nat) : List Expr → List TAct → Prop
  | nil : SGs prog w G mg mb X Γ d [] []
  | cons {t ts a as} : isStarred t = false → SoundG prog w G mg mb X Γ d t a → SGs prog w G mg mb X Γ d ts as → SGs prog w G mg mb X Γ d (t :: ts) (a :: as)
theorem assignEach_cons {t : Expr} {ts : List Expr} {env : Env} (h : isStarred t = false) : assignEach (t :: ts) env = (false, assign t env) :: assignEach ts env := by
  cases t <;> first | rfl | (simp [isStarred] at h)
theorem SGs.len {ts as} (h : SGs prog w G mg mb X Γ d ts as) (env : Env) : (assignEach ts env).length = as.length ∧ (assignEach ts env).findIdx? (·.1) = none := by
  induction h with
  | nil => exact ⟨rfl, rfl⟩
  | cons hs _ _ ih => rw [assignEach_cons hs]; exact ⟨by simp [ih.1], by simp [List.findIdx?_cons, ih.2]⟩
theorem SGs.run {ts as} (h : SGs prog w G mg mb X Γ d ts as) : ∀ {B : Base} {xs : List AV} {ae : AEnv} {st st' : St}, GoodB G mg mb X B → gAll as xs ae st = some st' → ∀ {ρ : List Addr} {env : Env} {s : Shared} {A : Around} {vs : List Value}, Room A d → ER Γ ρ ae env → All2 (VR ρ) xs vs → SR B ρ st s →
    wpAny (model prog w) A (assignInOrder ((assignEach ts env).map (·.2)) vs) (PostU B ρ st') NoE s := by
  induction h with
  | nil =>
    intro B xs ae st st' hB h ρ env s A vs hA hE hv S
    cases hv with
    | nil => cases h; exact wpAny_assignInOrder_none ⟨ρ, List.prefix_refl _, S⟩
    | cons _ _ => cases h
  | cons hs hg _ ih =>
    intro B xs ae st st' hB h ρ env s A vs hA hE hv S
    cases hv with
    | nil => cases h
    | cons hx hr =>
      obtain ⟨st1, h1, h2⟩ := bind2 h
      rw [assignEach_cons hs]
      refine wpAny_assignInOrder_more (wpAny_mono (hg B _ ae st st1 hB h1 ρ env s A _ hA hE hx S) (fun u s1 k1 => ?_) fun _ _ e => e)
      obtain ⟨ρ1, e1, S1⟩ := k1
      exact wpAny_mono (ih hB h2 hA (hE.mono e1) (hr.mono fun _ _ => VR.mono e1) S1) (fun _ _ k => k.up e1) fun _ _ e => e
theorem sound_gtup {ts as} {k : Nat} {pos : Pos} (h : SGs prog w G mg mb X Γ d ts as) : SoundG prog w G mg mb X Γ d (.Tuple ts k pos) (gTup as) := by
  intro B v ae st st' hB hr ρ env s A v' hA hE hv S
  unfold gTup at hr
  split at hr
  · rename_i k'
    obtain ⟨xs, h1, hr⟩ := bind2 hr
    split at hr
    · rename_i hlen
      obtain ⟨a, ha, rfl⟩ := hv
      unfold tupAt at h1
      split at h1
      · rename_i ys hst
        cases h1
        obtain ⟨o, ho, hor⟩ := S.obj _ _ _ ha hst
        obtain ⟨vs, n, e, hvs⟩ := hor
        subst e
        have len := h.len env
        refine wpAny_assign_Tuple (t := a) (items := vs.toArray) hA.handled ⟨_, ho, rfl, n, rfl⟩ (by rw [len.1]; have := hvs.length; simp only [List.size_toArray]; omega) len.2 fun h' hx => ?_
        exact h.run hB hr hA hE (by simpa using hvs) (S.grown (tk := s.toks) fun b o e => hx b o (Nat.ne_of_lt (Heap.lt_size e)) e)
      · cases h1
    · cases hr
  · cases hr
end
def xPass : Act AFlow := fun _ st => some (.next, st)
def xBrk : Act AFlow := fun _ st => some (.brk, st)
def xCont : Act AFlow := fun _ st => some (.cont, st)
def xFail : Act AFlow := fun _ _ => .none
def xExpr (a : Act AV) : Act AFlow := fun ae st => (a ae st).bind fun r => some (.next, r.2)
def xRet (a : Act AV) : Act AFlow := fun ae st => (a ae st).bind fun r => some (.ret r.1, r.2)
def xRet0 : Act AFlow := fun _ st => some (.ret .none, st)
def storeAll : List TAct → AV → AEnv → St → Option St
  | [], _, _, st => some st
  | t :: ts, v, ae, st => (t v ae st).bind fun st' => storeAll ts v ae st'
def xAsg (a : Act AV) (ts : List TAct) : Act AFlow := fun ae st => (a ae st).bind fun r => (storeAll ts r.1 ae r.2).bind fun st' => some (.next, st')
def aiop (op : Operator) (x y : AV) : Option AV := match op, x, y with
  | .Add, .int a, .int b => some (.int (a + b))
  | .Sub, .int a, .int b => some (.int (a - b))
  | .Add, .str a, .str b => if a.length + b.length ≤ 1000000 then some (.str (a ++ b)) else .none
  | _, _, _ => .none
def xAug (op : Operator) (x : Act AV) (a : Act AV) (t : TAct) : Act AFlow := fun ae st => (x ae st).bind fun p => (a ae p.2).bind fun q => (aiop op p.1 q.1).bind fun v => (t v ae q.2).bind fun st' => some (.next, st')
def xIf (t : Act Bool) (a b : Act AFlow) : Act AFlow := fun ae st => (t ae st).bind fun r => if r.1 then a ae r.2 else b ae r.2
def xSeq (a b : Act AFlow) : Act AFlow := fun ae st => (a ae st).bind fun r => match r.1 with
  | .next => b ae r.2
  | _ => some r
section
variable {prog : Program} {w : World} {G : List (Str × AV)} {mg mb : Str → Option Value} {X : Heap → List TabD → Prop} {Γ : Sc} {d : Nat} {A : Around} {s : Shared} {B : Base} {ρ : List Addr} {st : St}
theorem PostF.here {r : AFlow × St} {f : Flow} (S : SR B ρ r.2 s) (h : FR ρ r.1 f) : PostF B ρ r f s := ⟨ρ, List.prefix_refl _, S, h⟩
theorem sound_pass {pos : Pos} : SoundX prog w G mg mb X Γ d (.Pass pos) xPass := by
  intro B ae st r hB h ρ env s A hA hE S
  cases h
  exact wpAny_Pass (PostF.here S rfl)
theorem sound_cont {pos : Pos} : SoundX prog w G mg mb X Γ d (.Continue pos) xCont := by
  intro B ae st r hB h ρ env s A hA hE S
  cases h
  exact wpAny_Continue (PostF.here S rfl)
theorem sound_brk {pos : Pos} : SoundX prog w G mg mb X Γ d (.Break pos) xBrk := by
  intro B ae st r hB h ρ env s A hA hE S
  cases h
  exact wpAny_Break (PostF.here S rfl)
theorem sound_fail {e : Stmt} : SoundX prog w G mg mb X Γ d e xFail := by
  intro B ae st r hB h; cases h
theorem sound_ret {e : Expr} {a : Act AV} {pos : Pos} (h : SoundE prog w G mg mb X Γ d e a) : SoundX prog w G mg mb X Γ d (.Return (some e) pos) (xRet a) := by
  intro B ae st r hB hr ρ env s A hA hE S
  obtain ⟨p, h1, hr⟩ := bind2 hr
  cases hr
  exact wpAny_Return_some (wpAny_mono (h B ae st p hB h1 ρ env s A hA hE S) (fun v s' ⟨ρ', e, S', hv⟩ => ⟨ρ', e, S', v, rfl, hv⟩) fun _ _ e => e)
theorem sound_ret0 {pos : Pos} : SoundX prog w G mg mb X Γ d (.Return none pos) xRet0 := by
  intro B ae st r hB hr ρ env s A hA hE S
  cases hr
  exact wpAny_Return_none (PostF.here S ⟨_, rfl, rfl⟩)
theorem not_interactive {ae : AEnv} {env : Env} (hE : ER Γ ρ ae env) : interactive env = false := by
  unfold interactive; rw [hE.scope, hE.kind]; rfl
def plainVal : Expr → Bool
  | .ListComp .. => false
  | .SetComp .. => false
  | .DictComp .. => false
  | _ => true
theorem plainVal.ok {e : Expr} (h : plainVal e = true) (t : Option Expr) (n : Nat) (env : Env) : swapsWith e t n env = pure false := by
  cases e <;> first | rfl | cases h
theorem sound_expr {e : Expr} {a : Act AV} {pos : Pos} (hp : plainVal e = true) (h : SoundE prog w G mg mb X Γ d e a) : SoundX prog w G mg mb X Γ d (.Expr e pos) (xExpr a) := by
  intro B ae st r hB hr ρ env s A hA hE S
  obtain ⟨p, h1, hr⟩ := bind2 hr
  cases hr
  exact wpAny_Expr_any (wpAny_mono (h B ae st p hB h1 ρ env s A hA hE S) (fun v s' ⟨ρ', e, S', hv⟩ => ⟨ρ', e, S', rfl⟩) fun _ _ e => e) (not_interactive hE) (plainVal.ok hp _ _ _)
theorem SGs.store {ts as} (h : SGs prog w G mg mb X Γ d ts as) : ∀ {B : Base} {x : AV} {ae : AEnv} {st st' : St}, GoodB G mg mb X B → storeAll as x ae st = some st' → ∀ {ρ : List Addr} {env : Env} {s : Shared} {A : Around} {v : Value}, Room A d → ER Γ ρ ae env → VR ρ x v → SR B ρ st s →
    wpAny (model prog w) A (assignAll v ((assignEach ts env).map (·.2))) (PostU B ρ st') NoE s := by
  induction h with
  | nil =>
    intro B x ae st st' hB h ρ env s A v hA hE hv S
    cases h; exact wpAny_pure ⟨ρ, List.prefix_refl _, S⟩
  | @cons t ts a as hs hg hrest ih =>
    intro B x ae st st' hB h ρ env s A v hA hE hv S
    obtain ⟨st1, h1, h2⟩ := bind2 h
    rw [assignEach_cons hs]
    have first := hg B _ ae st st1 hB h1 ρ env s A _ hA hE hv S
    cases hrest with
    | nil =>
      cases h2
      exact first
    | @cons t2 ts2 a2 as2 hs2 hg2 hr2 =>
      rw [assignEach_cons hs2]
      refine wpAny_bind (wpAny_holding (wpAny_mono first (fun u s1 k1 => ?_) fun _ _ e => e))
      obtain ⟨ρ1, e1, S1⟩ := k1
      have := ih hB h2 hA (hE.mono e1) (hv.mono e1) S1
      rw [assignEach_cons hs2] at this
      exact wpAny_mono this (fun _ _ k => k.up e1) fun _ _ e => e
def notTuple : Expr → Bool
  | .Tuple .. => false
  | _ => true
theorem notTuple.ok {ts : List Expr} {v : Expr} (h : notTuple v = true) (env : Env) : swappedStores ts v env = pure none := by
  unfold swappedStores
  split
  · rename_i x h1
    split at h1
    · cases h
    · cases h
    · cases h1
  · rfl
theorem swaps_not {ts : List Expr} {v : Expr} (h : plainVal v = true) (n : Nat) (env : Env) : swapsWithSole ts v n env = pure false := by
  unfold swapsWithSole
  split
  · exact plainVal.ok h _ _ _
  · rfl
theorem sound_asg' {ts : List Expr} {as : List TAct} {e : Expr} {a : Act AV} {pos : Pos} (hp : ∀ env : Env, env.scope = Γ.scope → ∀ n, swapsWithSole ts e n env = pure false) (ht : notTuple e = true) (h : SoundE prog w G mg mb X Γ d e a) (hs : SGs prog w G mg mb X Γ d ts as) :
    SoundX prog w G mg mb X Γ d (.Assign ts e pos) (xAsg a as) := by
  intro B ae st r hB hr ρ env s A hA hE S
  obtain ⟨p, h1, hr⟩ := bind2 hr
  obtain ⟨st', h2, hr⟩ := bind2 hr
  cases hr
  refine wpAny_Assign_stores (wpAny_mono (h B ae st p hB h1 ρ env s A hA hE S) (fun v s1 k1 => ?_) fun _ _ e => e) (hp env hE.scope _) (notTuple.ok ht _)
  obtain ⟨ρ1, e1, S1, v1⟩ := k1
  refine wpAny_mono (hs.store hB h2 hA (hE.mono e1) v1 S1) (fun u s2 k2 => ?_) fun _ _ e => e
  obtain ⟨ρ2, e2, S2⟩ := k2
  exact ⟨ρ2, e1.trans e2, S2, rfl⟩
theorem sound_asg {ts : List Expr} {as : List TAct} {e : Expr} {a : Act AV} {pos : Pos} (hp : plainVal e = true) (ht : notTuple e = true) (h : SoundE prog w G mg mb X Γ d e a) (hs : SGs prog w G mg mb X Γ d ts as) :
    SoundX prog w G mg mb X Γ d (.Assign ts e pos) (xAsg a as) := sound_asg' (fun env _ n => swaps_not hp n env) ht h hs
theorem aiop_ok {op : Operator} {x y v : AV} (h : aiop op x y = some v) (S : SR B ρ st s) {xv yv : Value} (hx : VR ρ x xv) (hy : VR ρ y yv) :
    wpAny (model prog w) A (inplaceOp op xv yv) (Post B ρ (v, st)) NoE s := by
  unfold aiop at h
  split at h
  · obtain ⟨t, rfl⟩ := hx; obtain ⟨t', rfl⟩ := hy; cases h; exact PyProof.Rows.iadd_int (Post.here S.toks ⟨_, rfl⟩)
  · obtain ⟨t, rfl⟩ := hx; obtain ⟨t', rfl⟩ := hy; cases h; exact PyProof.Rows.isub_int (Post.here S.toks ⟨_, rfl⟩)
  · obtain ⟨t, rfl⟩ := hx; obtain ⟨t', rfl⟩ := hy
    split at h
    · cases h
      exact PyProof.Rows.iadd_str (fun t' tk => Post.here S.toks ⟨_, rfl⟩) (by have := sizeLine_eq; omega)
    · cases h
  · cases h
def SoundN (prog : Program) (w : World) (G : List (Str × AV)) (mg mb : Str → Option Value) (X : Heap → List TabD → Prop) (Γ : Sc) (d : Nat) (x : Str) (a : Act AV) : Prop :=
  ∀ (B : Base) (ae : AEnv) (st : St) (r : AV × St), GoodB G mg mb X B → a ae st = some r → ∀ (ρ : List Addr) (env : Env) (s : Shared) (A : Around), Room A d → ER Γ ρ ae env → SR B ρ st s →
    wpAny (model prog w) A (loadName env x) (Post B ρ r) NoE s
theorem load_loc {x : Str} (hx : Γ.scope.names.lookup x = some .local) (hm : x ∈ Γ.nm) : SoundN prog w G mg mb X Γ d x (bLoc Γ.nm (Γ.nm.idxOf x)) := by
  intro B ae st r hB hr ρ env s A hA hE S
  unfold bLoc at hr
  split at hr
  · rename_i nm' m hst
    split at hr
    · rename_i hnm
      subst hnm
      split at hr
      · rename_i v hv
        cases hr
        obtain ⟨a, o, ha, ho, hor⟩ := S.addr hst
        have : a = env.locals := by have := hE.loc; rw [ha] at this; exact Option.some.inj this
        subst this
        obtain ⟨mm, hns, hl, hall⟩ := ns_of ho hor
        have h1 := hall x hm
        rw [List.getD_eq_getElem?_getD, hv] at h1
        obtain ⟨v', e', hv'⟩ := OptR.some h1
        exact wpAny_loadName_local (hE.scope ▸ hE.kind) ((hE.kindOf x).trans hx) hns e' (Post.here S hv')
      · cases hr
    · cases hr
  · cases hr
def SoundS (prog : Program) (w : World) (G : List (Str × AV)) (mg mb : Str → Option Value) (X : Heap → List TabD → Prop) (Γ : Sc) (d : Nat) (x : Str) (a : TAct) : Prop :=
  ∀ (B : Base) (v : AV) (ae : AEnv) (st st' : St), GoodB G mg mb X B → a v ae st = some st' → ∀ (ρ : List Addr) (env : Env) (s : Shared) (A : Around) (v' : Value), Room A d → ER Γ ρ ae env → VR ρ v v' → SR B ρ st s →
    wpAny (model prog w) A (storeName env x v') (PostU B ρ st') NoE s
theorem sstore_loc {x : Str} (hx : Γ.scope.names.lookup x = some .local) (hm : x ∈ Γ.nm) : SoundS prog w G mg mb X Γ d x (gLoc Γ.nm (Γ.nm.idxOf x)) :=
  fun B v ae st st' hB h ρ env s A v' hA hE hv S => store_loc hx hm h hE hv S
theorem sstore_cell {x : Str} (hx : Γ.scope.names.lookup x = some .cell) (hm : x ∈ Γ.cn) : SoundS prog w G mg mb X Γ d x (gCell (Γ.cn.idxOf x)) :=
  fun B v ae st st' hB h ρ env s A v' hA hE hv S => store_cell hx hm h hE hv S
theorem SoundS.g {x : Str} {a : TAct} {pos : Pos} (h : SoundS prog w G mg mb X Γ d x a) : SoundG prog w G mg mb X Γ d (.Name x pos) a :=
  fun B v ae st st' hB h1 ρ env s A v' hA hE hv S => wpAny_assign_Name (h B v ae st st' hB h1 ρ env s A v' hA hE hv S)
theorem sound_aug {x : Str} {op : Operator} {e : Expr} {a ld : Act AV} {t : TAct} {npos pos : Pos} (hl : SoundN prog w G mg mb X Γ d x ld) (h : SoundE prog w G mg mb X Γ d e a) (ht : SoundS prog w G mg mb X Γ d x t) :
    SoundX prog w G mg mb X Γ d (.AugAssign (.Name x npos) op e pos) (xAug op ld a t) := by
  intro B ae st r hB hr ρ env s A hA hE S
  obtain ⟨p, h1, hr⟩ := bind2 hr
  obtain ⟨q, h2, hr⟩ := bind2 hr
  obtain ⟨v, h3, hr⟩ := bind2 hr
  obtain ⟨st', h4, hr⟩ := bind2 hr
  cases hr
  refine wpAny_AugAssign_Name (wpAny_mono (hl B ae st p hB h1 ρ env s A hA hE S) (fun v1 s1 ⟨ρ1, e1, S1, k1⟩ => ?_) fun _ _ e => e)
  refine wpAny_mono (h B ae _ q hB h2 ρ1 env s1 A hA (hE.mono e1) S1) (fun v2 s2 ⟨ρ2, e2, S2, k2⟩ => ?_) fun _ _ e => e
  refine wpAny_mono (aiop_ok h3 S2 (k1.mono e2) k2) (fun v3 s3 ⟨ρ3, e3, S3, k3⟩ => ?_) fun _ _ e => e
  refine wpAny_mono (ht B v ae _ st' hB h4 ρ3 env s3 A v3 hA (hE.mono (e1.trans (e2.trans e3))) k3 S3) (fun _ s4 ⟨ρ4, e4, S4⟩ => ?_) fun _ _ e => e
  exact ⟨ρ4, e1.trans (e2.trans (e3.trans e4)), S4, rfl⟩
theorem sound_if {t : Expr} {b o : List Stmt} {at' : Act Bool} {ab ao : Act AFlow} {pos : Pos} (ht : SoundT prog w G mg mb X Γ d t at') (hb : SoundXs prog w G mg mb X Γ d b ab) (ho : SoundXs prog w G mg mb X Γ d o ao) :
    SoundX prog w G mg mb X Γ d (.If t b o pos) (xIf at' ab ao) := by
  intro B ae st r hB hr ρ env s A hA hE S
  obtain ⟨p, h1, hr⟩ := bind2 hr
  refine wpAny_If (wpAny_mono (ht B ae st p hB h1 ρ env s A hA hE S) (fun v1 s1 ⟨ρ1, e1, S1, k1⟩ => ?_) fun _ _ e => e)
  subst k1
  split at hr
  · rename_i hc
    rw [if_pos hc]
    exact wpAny_mono (hb B ae _ r hB hr ρ1 env s1 A hA (hE.mono e1) S1) (fun _ _ k => k.up e1) fun _ _ e => e
  · rename_i hc
    rw [if_neg hc]
    exact wpAny_mono (ho B ae _ r hB hr ρ1 env s1 A hA (hE.mono e1) S1) (fun _ _ k => k.up e1) fun _ _ e => e
theorem sound_xnil : SoundXs prog w G mg mb X Γ d [] xPass := by
  intro B ae st r hB h ρ env s A hA hE S
  cases h
  exact wpAny_execs_nil (PostF.here S rfl)
theorem sound_xcons {x : Stmt} {xs : List Stmt} {a b : Act AFlow} (hx : SoundX prog w G mg mb X Γ d x a) (hs : SoundXs prog w G mg mb X Γ d xs b) : SoundXs prog w G mg mb X Γ d (x :: xs) (xSeq a b) := by
  intro B ae st r hB hr ρ env s A hA hE S
  obtain ⟨p, h1, hr⟩ := bind2 hr
  refine wpAny_execs_cons (wpAny_mono (hx B ae st p hB h1 ρ env s A hA hE S) (fun f s1 k1 => ?_) fun _ _ e => e)
  obtain ⟨pf, ps⟩ := p
  obtain ⟨ρ1, e1, S1, hf⟩ := k1
  cases pf with
  | next =>
    cases hf
    exact wpAny_mono (hs B ae _ r hB hr ρ1 env s1 A hA (hE.mono e1) S1) (fun _ _ k => k.up e1) fun _ _ e => e
  | brk => cases hf; cases hr; exact ⟨ρ1, e1, S1, rfl⟩
  | cont => cases hf; cases hr; exact ⟨ρ1, e1, S1, rfl⟩
  | ret v => obtain ⟨v', rfl, hv⟩ := hf; cases hr; exact ⟨ρ1, e1, S1, _, rfl, hv⟩
end
def whileGo (t : Act Bool) (b o : Act AFlow) (ae : AEnv) : Nat → St → Option (AFlow × St)
  | 0, _ => .none
  | n + 1, st => (t ae st).bind fun p => if p.1 then (b ae p.2).bind fun r => (match r.1 with
      | .next => whileGo t b o ae n r.2
      | .cont => whileGo t b o ae n r.2
      | .brk => some (.next, r.2)
      | .ret v => some (.ret v, r.2)) else o ae p.2
def xWhile (n : Nat) (t : Act Bool) (b o : Act AFlow) : Act AFlow := fun ae st => whileGo t b o ae n st
section
variable {prog : Program} {w : World} {G : List (Str × AV)} {mg mb : Str → Option Value} {X : Heap → List TabD → Prop} {Γ : Sc} {d : Nat} {A : Around} {s : Shared} {B : Base} {ρ : List Addr} {st : St}
theorem sound_while {t : Expr} {b o : List Stmt} {at' : Act Bool} {ab ao : Act AFlow} {pos : Pos} {n : Nat} (ht : SoundT prog w G mg mb X Γ d t at') (hb : SoundXs prog w G mg mb X Γ d b ab) (ho : SoundXs prog w G mg mb X Γ d o ao) :
    SoundX prog w G mg mb X Γ d (.While t b o pos) (xWhile n at' ab ao) := by
  intro B ae st r hB hr ρ env s A hA hE S
  refine wpAny_While (codeAny_whileLoop (fun m s' => ∃ ρ' st', ρ <+: ρ' ∧ SR B ρ' st' s' ∧ whileGo at' ab ao ae m st' = some r) (fun m s1 hI => ?_) n ⟨ρ, st, List.prefix_refl _, S, hr⟩)
  obtain ⟨ρ1, st1, e1, S1, hr1⟩ := hI
  cases m with
  | zero => cases hr1
  | succ m =>
    obtain ⟨p, h1, hr1⟩ := bind2 hr1
    refine wpAny_mono (ht B ae st1 p hB h1 ρ1 env s1 A hA (hE.mono e1) S1) (fun v2 s2 ⟨ρ2, e2, S2, k2⟩ => ?_) fun _ _ e => e.elim
    subst k2
    have E2 := hE.mono (e1.trans e2)
    split at hr1
    · rename_i hc
      rw [if_pos hc]
      obtain ⟨q, h2, hr2⟩ := bind2 hr1
      refine wpAny_mono (hb B ae _ q hB h2 ρ2 env s2 A hA E2 S2) (fun f s3 k3 => ?_) fun _ _ e => e.elim
      obtain ⟨qf, qs⟩ := q
      obtain ⟨ρ3, e3, S3, hf⟩ := k3
      have e123 := e1.trans (e2.trans e3)
      cases qf with
      | next => cases hf; exact ⟨m, Nat.lt_succ_self _, ρ3, qs, e123, S3, hr2⟩
      | cont => cases hf; exact ⟨m, Nat.lt_succ_self _, ρ3, qs, e123, S3, hr2⟩
      | brk => cases hf; cases hr2; exact ⟨ρ3, e123, S3, rfl⟩
      | ret v => obtain ⟨v', rfl, hv⟩ := hf; cases hr2; exact ⟨ρ3, e123, S3, _, rfl, hv⟩
    · rename_i hc
      rw [if_neg hc]
      exact wpAny_mono (ho B ae _ r hB hr1 ρ2 env s2 A hA E2 S2) (fun f s3 k3 => k3.up (e1.trans e2)) fun _ _ e => e.elim
end
inductive It where
  | rng (a c : Int) (n : Nat)
  | lst (k : Nat)
  | rev (k n : Nat)
  | nil (k : Nat)
def itemsAt (st : St) (k : Nat) : Option (List AV) := match st[k]? with
  | some (.list xs) => some xs
  | some (.rlist xs) => some xs
  | _ => .none
def ItO (ρ : List Addr) : It → Nat → Obj → Prop
  | .rng a c n, i, o => i ≤ n ∧ o = { cls := .type "range_iterator", dict := none, data := .fields #[rawInt (a + i * c), rawInt ((n : Int) - i), rawInt c], slots := #[] }
  | .lst k, i, o => ∃ l, ρ[k]? = some l ∧ o.cls = .type "list_iterator" ∧ o.data = .fields #[.ref l, .int i 0]
  | .nil k, i, o => i = 0 ∧ ∃ (dx : Addr) (ok ov : Value), ρ[k]? = some dx ∧ o = { cls := .type "dict_itemiterator", dict := none, data := .fields #[.none, .bool false, .ref dx, .int (0 : Nat) 0, .int (0 : Nat) 0, .int (0 : Nat) 0, ok, ov], slots := #[] }
  | .rev k n, i, o => i ≤ n ∧ ∃ l, ρ[k]? = some l ∧ o.cls = .type "list_reverseiterator" ∧ o.data = .fields #[.ref l, rawInt ((n : Int) - 1 - i)]
theorem ItO.mono {ρ ρ' : List Addr} (h : ρ <+: ρ') : ∀ {it i o}, ItO ρ it i o → ItO ρ' it i o
  | .rng _ _ _, _, _, x => x
  | .lst _, _, _, ⟨l, a, b⟩ => ⟨l, pre_get h a, b⟩
  | .nil _, _, _, ⟨i, dx, ok, ov, a, b⟩ => ⟨i, dx, ok, ov, pre_get h a, b⟩
  | .rev _ _, _, _, ⟨i, l, a, b⟩ => ⟨i, l, pre_get h a, b⟩
def inext (it : It) (i : Nat) (st : St) : Option (Option AV) := match it with
  | .rng a c n => if i < n then some (some (.int (a + i * c))) else some .none
  | .lst k => (itemsAt st k).map fun xs => xs[i]?
  | .nil k => (match st[k]? with | some .edict => some .none | _ => .none)
  | .rev k n => (itemsAt st k).bind fun xs => if xs.length = n then (if i < n then some (xs[n - 1 - i]?) else some .none) else .none
def isize (it : It) (st : St) : Nat := match it with
  | .rng _ _ n => n
  | .lst k => ((itemsAt st k).getD []).length
  | .rev _ n => n
  | .nil _ => 0
def Apart (B : Base) (a : Addr) : Prop := ∀ o, ¬ B.keep a o
section
variable {prog : Program} {w : World} {A : Around} {s : Shared} {B : Base} {ρ : List Addr} {st : St} {d : Nat}
theorem SR.itemsOf (S : SR B ρ st s) {k : Nat} {a : Addr} {xs : List AV} (ha : ρ[k]? = some a) (h : itemsAt st k = some xs) :
    ∃ vs, All2 (VR ρ) xs vs ∧ s.heap.IsList a vs.toArray := by
  unfold itemsAt at h
  split at h
  · rename_i ys hs
    cases h
    obtain ⟨o, ho, hor⟩ := S.obj _ _ _ ha hs
    obtain ⟨vs, n, hl, hv⟩ := list_of ho hor
    exact ⟨vs, hv, hl.isList⟩
  · rename_i ys hs
    cases h
    obtain ⟨o, ho, hor⟩ := S.obj _ _ _ ha hs
    obtain ⟨vs, n, e1, e2, q⟩ := hor
    exact ⟨vs, q, ⟨o, ho, e1, n, e2⟩⟩
  · cases h
theorem ItO.notList {it : It} {i : Nat} {o : Obj} (h : ItO ρ it i o) : o.cls ≠ .type "list" := by
  cases it with
  | rng => obtain ⟨_, rfl⟩ := h; simp
  | lst => obtain ⟨_, _, e, _⟩ := h; rw [e]; simp
  | rev => obtain ⟨_, _, _, e, _⟩ := h; rw [e]; simp
  | nil => obtain ⟨_, _, _, _, _, rfl⟩ := h; simp
theorem SR.pin_out {a : Addr} {o : Obj} (S : SR (B.pin a o) ρ st s) (hl : o.cls ≠ .type "list") : a ∉ ρ := fun hm => by
  obtain ⟨k, hk⟩ := List.mem_iff_getElem?.mp hm
  obtain ⟨ao, ha⟩ := S.slot hk
  by_cases hro : ao.isRO = true
  · cases ao with
    | rlist xs =>
      obtain ⟨o', ho', vs, n, e1, e2, q⟩ := S.obj k a _ hk ha
      rw [S.pinGet] at ho'; cases ho'
      exact hl e1
    | _ => cases hro
  · exact S.apart k a ao hk ha (by simpa using hro) o (.inr (List.mem_cons_self ..))
theorem SR.repin {a : Addr} {o o' : Obj} {h' : Heap} {tk : Nat} (S : SR (B.pin a o) ρ st s) (hl : o.cls ≠ .type "list") (hap : Apart B a)
    (hk : ∀ b x, b ≠ a → s.heap.get? b = some x → h'.get? b = some x) (ho : h'.get? a = some o') : SR (B.pin a o') ρ st { s with heap := h', toks := tk } := by
  have hout := S.pin_out hl
  have hne : ∀ t ∈ B.tabs, ∀ b, Rsv s.heap t b → b ≠ a := fun t ht b r e => ((S.tab t ht).off b r).2 o (e ▸ .inr (List.mem_cons_self ..))
  refine ⟨fun b x hx => ?_, S.len, S.nd, fun k b ao hb hao hro x hx => ?_, fun k b ao hb hao => ?_, S.gens, S.os, S.eds, fun t ht => (S.tab t ht).move (fun b x r e => hk b x (hne t ht b r) e) (fun b r => ⟨((S.tab t ht).off b r).1, fun x hx => ?_⟩), fun k b ps body sc q cl P hb hao => (S.fns k b ps body sc q cl P hb hao).move (fun x e => hk b x (fun q => hout (q ▸ List.mem_iff_getElem?.mpr ⟨k, hb⟩)) e) (fun t ht x e => hk _ x (hne t ht _ (.inl rfl)) e) rfl⟩
  · rcases hx with hx | hx
    · exact hk b x (fun e => hap x (.inl (e ▸ hx))) (S.keep b x (.inl hx))
    · rcases List.mem_cons.mp hx with e | hx
      · cases e; exact ho
      · exact hk b x (fun e => hap x (.inr (e ▸ hx))) (S.keep b x (.inr (List.mem_cons_of_mem _ hx)))
  · rcases hx with hx | hx
    · exact S.apart k b ao hb hao hro x (.inl hx)
    · rcases List.mem_cons.mp hx with e | hx
      · cases e; exact hout (List.mem_iff_getElem?.mpr ⟨k, hb⟩)
      · exact S.apart k b ao hb hao hro x (.inr (List.mem_cons_of_mem _ hx))
  · obtain ⟨ob, h1, h2⟩ := S.obj k b ao hb hao
    exact ⟨ob, hk b ob (fun e => hout (e ▸ List.mem_iff_getElem?.mpr ⟨k, hb⟩)) h1, h2⟩
  · rcases hx with hx | hx
    · exact ((S.tab t ht).off b r).2 x (.inl hx)
    · rcases List.mem_cons.mp hx with e | hx
      · exact hne t ht b r (Prod.mk.inj e).1
      · exact ((S.tab t ht).off b r).2 x (.inr (List.mem_cons_of_mem _ hx))
theorem SR.gone {a : Addr} {o : Obj} {h' : Heap} {tk : Nat} (S : SR (B.pin a o) ρ st s) (hl : o.cls ≠ .type "list") (hap : Apart B a)
    (hk : ∀ b x, b ≠ a → s.heap.get? b = some x → h'.get? b = some x) : SR B ρ st { s with heap := h', toks := tk } := by
  have hout := S.pin_out hl
  have hne : ∀ t ∈ B.tabs, ∀ b, Rsv s.heap t b → b ≠ a := fun t ht b r e => ((S.tab t ht).off b r).2 o (e ▸ .inr (List.mem_cons_self ..))
  refine ⟨fun b x hx => hk b x (fun e => hap x (e ▸ hx)) (S.keep b x (hx.imp id (List.mem_cons_of_mem _))), S.len, S.nd, fun k b ao hb hao hro x hx => S.apart k b ao hb hao hro x (hx.imp id (List.mem_cons_of_mem _)), fun k b ao hb hao => ?_, S.gens, S.os, S.eds, fun t ht => (S.tab t ht).move (fun b x r e => hk b x (hne t ht b r) e) (fun b r => ⟨((S.tab t ht).off b r).1, fun x hx => ((S.tab t ht).off b r).2 x (hx.imp id (List.mem_cons_of_mem _))⟩), fun k b ps body sc q cl P hb hao => (S.fns k b ps body sc q cl P hb hao).move (fun x e => hk b x (fun q => hout (q ▸ List.mem_iff_getElem?.mpr ⟨k, hb⟩)) e) (fun t ht x e => hk _ x (hne t ht _ (.inl rfl)) e) rfl⟩
  obtain ⟨ob, h1, h2⟩ := S.obj k b ao hb hao
  exact ⟨ob, hk b ob (fun e => hout (e ▸ List.mem_iff_getElem?.mpr ⟨k, hb⟩)) h1, h2⟩
def NextPost (B : Base) (ρ : List Addr) (st : St) (it : It) (i : Nat) (a : Addr) (r : Option AV) : Option Value → Shared → Prop := fun v s' => match r with
  | .none => v = none ∧ SR B ρ st s'
  | some x => ∃ v' o', v = some v' ∧ VR ρ x v' ∧ SR (B.pin a o') ρ st s' ∧ ItO ρ it (i + 1) o'
theorem next_ok {it : It} {i : Nat} {a : Addr} {o : Obj} {r : Option AV} (hA : Room A d) (h : inext it i st = some r) (S : SR (B.pin a o) ρ st s) (hap : Apart B a) (hi : ItO ρ it i o) :
    wpAny (model prog w) A (pyNext (.ref a)) (NextPost B ρ st it i a r) NoE s := by
  have hl := hi.notList
  have out := S.pin_out hl
  have same : ∀ {h' : Heap}, Heap.SameBut a s.heap h' → ∀ b x, b ≠ a → s.heap.get? b = some x → h'.get? b = some x := fun hs b x hb e => (hs.2 b hb).trans e
  cases it with
  | rng x c n =>
    obtain ⟨hin, rfl⟩ := hi
    have hg := S.pinGet
    unfold inext at h
    by_cases hlt : i < n
    · simp only [if_pos hlt, Option.some.injEq] at h
      subst h
      refine wpAny_pyNext_range_item hg (by omega) fun h' hr hs => ⟨_, _, rfl, ⟨_, rfl⟩, S.repin hl hap (same hs) hr, by omega, ?_⟩
      have e1 : x + (i : Int) * c + c = x + ((i + 1 : Nat) : Int) * c := by rw [Int.natCast_add, Int.add_mul]; simp; omega
      have e2 : (n : Int) - i - 1 = (n : Int) - ((i + 1 : Nat) : Int) := by omega
      rw [e1, e2]
    · simp only [if_neg hlt, Option.some.injEq] at h
      subst h
      exact wpAny_pyNext_range_end hA.handled hg (by omega) fun h' hs => ⟨rfl, S.gone hl hap (fun b x hb e => hs b x hb e)⟩
  | lst k =>
    obtain ⟨l, hk, hc, hd⟩ := hi
    obtain ⟨xs, h1, h2⟩ := Option.map_eq_some_iff.mp h
    obtain ⟨vs, hv, hL⟩ := S.itemsOf hk h1
    subst h2
    have hit : s.heap.IsListIter a l i := ⟨o, S.pinGet, hc, hd⟩
    have hla : l ≠ a := fun e => out (e ▸ List.mem_iff_getElem?.mpr ⟨k, hk⟩)
    cases hx : xs[i]? with
    | none =>
      refine wpAny_pyNext_list_end hA.handled hit hL ?_ fun h' hs => ⟨rfl, S.gone hl hap (fun b x hb e => hs b x hb e)⟩
      have := hv.length
      rw [List.getElem?_eq_none_iff] at hx
      simp; omega
    | some x =>
      obtain ⟨v, hv1, hv2⟩ := hv.get hx
      refine wpAny_pyNext_list_item hit hL (x := v) (by simpa using hv1) fun h' hr hs => ?_
      obtain ⟨o', ho', hc', hd'⟩ := hr
      exact ⟨v, o', rfl, hv2, S.repin hl hap (same hs) ho', l, hk, hc', hd'⟩
  | nil k =>
    obtain ⟨hin, dx, ok, ov, hk, rfl⟩ := hi
    unfold inext at h
    dsimp only at h
    split at h
    · rename_i hst
      cases h
      obtain ⟨od, hod, rfl⟩ := S.obj _ _ _ hk hst
      have hm : s.heap.DictAt (PySem.intKind prog w) dx [] 0 := dictAt_empty hod
      exact wpAny_pyNext_items_end (knd := PySem.intKind prog w) (kvs := []) (i := 0) (ep := 0) hA.handled S.pinGet hm rfl fun h' hx => ⟨rfl, S.gone hl hap fun b x hb e => hx b x hb e⟩
    · cases h
  | rev k n =>
    obtain ⟨hin, l, hk, hc, hd⟩ := hi
    obtain ⟨xs, h1, h2⟩ := bind2 h
    obtain ⟨vs, hv, hL⟩ := S.itemsOf hk h1
    split at h2
    · rename_i hn
      have len := hv.length
      by_cases hlt : i < n
      · rw [if_pos hlt] at h2
        cases h2
        have hx : xs[n - 1 - i]? = some (xs[n - 1 - i]'(by omega)) := List.getElem?_eq_getElem (by omega)
        rw [hx]
        obtain ⟨v, hv1, hv2⟩ := hv.get hx
        have hit : s.heap.IsRevIter a l ((n - 1 - i : Nat) : Int) := ⟨o, S.pinGet, hc, by rw [hd, show (n : Int) - 1 - i = ((n - 1 - i : Nat) : Int) by omega]⟩
        refine wpAny_pyNext_rev_item hit hL (x := v) (by simpa using hv1) fun h' hr hs => ?_
        obtain ⟨o', ho', hc', hd'⟩ := hr
        exact ⟨v, o', rfl, hv2, S.repin hl hap (same hs) ho', by omega, l, hk, hc', by rw [hd', show ((n - 1 - i : Nat) : Int) - 1 = (n : Int) - 1 - ((i + 1 : Nat) : Int) by omega]⟩
      · rw [if_neg hlt] at h2
        cases h2
        have hit : s.heap.IsRevIter a l (-1) := ⟨o, S.pinGet, hc, by rw [hd, show (n : Int) - 1 - i = -1 by omega]⟩
        exact wpAny_pyNext_rev_end hA.handled hit fun h' hs => ⟨rfl, S.gone hl hap (fun b x hb e => hs b x hb e)⟩
    · cases h2
def ItPost (B : Base) (ρ : List Addr) (r : It × St) : Value → Shared → Prop := fun v s' => ∃ ρ' a o, ρ <+: ρ' ∧ SR (B.pin a o) ρ' r.2 s' ∧ Apart B a ∧ ItO ρ' r.1 0 o ∧ v = .ref a
def SoundI (prog : Program) (w : World) (G : List (Str × AV)) (mg mb : Str → Option Value) (X : Heap → List TabD → Prop) (Γ : Sc) (d : Nat) (e : Expr) (a : Act It) : Prop :=
  ∀ (B : Base) (ae : AEnv) (st : St) (r : It × St), GoodB G mg mb X B → a ae st = some r → ∀ (ρ : List Addr) (env : Env) (s : Shared) (A : Around), Room A d → ER Γ ρ ae env → SR B ρ st s →
    wpAny (model prog w) A (eval e env) (fun x s1 => wpAny (model prog w) A (pyIter x) (ItPost B ρ r) NoE s1) NoE s
theorem SR.fresh_apart (S : SR B ρ st s) {a : Addr} (h : s.heap.get? a = none) : Apart B a := fun o x => by
  have := S.keep a o x; rw [h] at this; cases this
theorem SR.fresh_out (S : SR B ρ st s) {a : Addr} (h : s.heap.get? a = none) : a ∉ ρ := fun hm => by
  obtain ⟨k, hk⟩ := List.mem_iff_getElem?.mp hm
  obtain ⟨ao, ha⟩ := S.slot hk
  obtain ⟨o, e, _⟩ := S.obj k a ao hk ha
  rw [h] at e; cases e
theorem size_none (h : Heap) : h.get? h.objs.size = none := by
  cases e : h.get? h.objs.size with
  | none => rfl
  | some x => exact absurd (Heap.lt_size e) (Nat.lt_irrefl _)
theorem SR.push_pin (S : SR B ρ st s) {o : Obj} {tk : Nat} (hf : o.isFreed = false) : SR (B.pin s.heap.objs.size o) ρ st { s with heap := s.heap.push o, toks := tk } :=
  SR.pinned (S.grown (tk := tk) fun _ _ e => Heap.get?_push_of_some _ e) (Heap.get?_push_size _ hf) (S.fresh_out (size_none _)) fun t ht b r e => by
    obtain ⟨oP, eP⟩ := (S.tab t ht).live (.inl rfl)
    have r' : Rsv s.heap t b := r.imp id fun e2 => by
      have := Heap.get?_push_of_some o eP
      have e3 : (s.heap.push o).get? t.P = some (tabObj #[rawInt t.line, rawInt t.col, .ref b]) := e2
      rw [this] at e3; rw [eP]; exact e3
    obtain ⟨ob, e4⟩ := (S.tab t ht).live r'
    rw [e, size_none] at e4; cases e4
def viewAt (st : St) (k : Nat) : Option Nat := match st[k]? with
  | some (.dview kd) => (match st[kd]? with | some .edict => some kd | _ => .none)
  | _ => .none
def iList (a : Act AV) : Act It := fun ae st => (a ae st).bind fun r => match r.1 with
  | .ref k => (match (itemsAt r.2 k).bind fun _ => some (It.lst k, r.2) with
    | some q => some q
    | .none => (viewAt r.2 k).map fun kd => (It.nil kd, r.2))
  | _ => .none
theorem iter_list {k : Nat} {v : Value} {xs : List AV} (S : SR B ρ st s) (hv : VR ρ (.ref k) v) (h : itemsAt st k = some xs) :
    wpAny (model prog w) A (pyIter v) (ItPost B ρ (.lst k, st)) NoE s := by
  obtain ⟨a, ha, rfl⟩ := hv
  obtain ⟨vs, _, hL⟩ := S.itemsOf ha h
  exact wpAny_pyIter_list hL ⟨ρ, _, _, List.prefix_refl _, S.push_pin (tk := s.toks) rfl, S.fresh_apart (size_none _), ⟨a, ha, rfl, rfl⟩, rfl⟩
theorem iter_view {k kd : Nat} {v : Value} (S : SR B ρ st s) (hv : VR ρ (.ref k) v) (h : viewAt st k = some kd) :
    wpAny (model prog w) A (pyIter v) (ItPost B ρ (.nil kd, st)) NoE s := by
  obtain ⟨a, ha, rfl⟩ := hv
  unfold viewAt at h
  split at h
  · rename_i kd' hst
    split at h
    · rename_i hst2
      cases h
      obtain ⟨o, ho, dx, hdx, rfl⟩ := S.obj _ _ _ ha hst
      obtain ⟨od, hod, rfl⟩ := S.obj _ _ _ hdx hst2
      exact wpAny_pyIter_items (knd := PySem.intKind prog w) (kvs := []) (ep := 0) ⟨_, ho, rfl, rfl⟩ (dictAt_empty hod) ⟨ρ, _, _, List.prefix_refl _, S.push_pin (tk := s.toks) rfl, S.fresh_apart (size_none _), ⟨rfl, dx, .none, .none, hdx, rfl⟩, rfl⟩
    · cases h
  · cases h
variable {G : List (Str × AV)} {mg mb : Str → Option Value} {X : Heap → List TabD → Prop} {Γ : Sc}
theorem ItPost.up {ρ' : List Addr} {r : It × St} {v : Value} (h : ρ <+: ρ') (p : ItPost B ρ' r v s) : ItPost B ρ r v s := let ⟨q, a, o, e, x⟩ := p; ⟨q, a, o, h.trans e, x⟩
theorem sound_ilist {e : Expr} {a : Act AV} (h : SoundE prog w G mg mb X Γ d e a) : SoundI prog w G mg mb X Γ d e (iList a) := by
  intro B ae st r hB hr ρ env s A hA hE S
  obtain ⟨p, h1, hr⟩ := bind2 hr
  obtain ⟨pv, ps⟩ := p
  refine wpAny_mono (h B ae st _ hB h1 ρ env s A hA hE S) (fun v1 s1 ⟨ρ1, e1, S1, k1⟩ => ?_) fun _ _ e => e
  cases pv with
  | ref k =>
    dsimp only at hr
    split at hr
    · rename_i q hq
      cases hr
      obtain ⟨xs, h2, hq⟩ := bind2 hq
      cases hq
      exact wpAny_mono (iter_list S1 k1 h2) (fun _ _ q => q.up e1) fun _ _ e => e
    · obtain ⟨kd, h2, rfl⟩ := Option.map_eq_some_iff.mp hr
      exact wpAny_mono (iter_view S1 k1 h2) (fun _ _ q => q.up e1) fun _ _ e => e
  | _ => cases hr
def forGo (it : It) (t : TAct) (b o : Act AFlow) (ae : AEnv) : Nat → Nat → St → Option (AFlow × St)
  | 0, _, _ => .none
  | n + 1, i, st => (inext it i st).bind fun x => match x with
    | .none => o ae st
    | some x => (t x ae st).bind fun st1 => (b ae st1).bind fun r => match r.1 with
      | .next => forGo it t b o ae n (i + 1) r.2
      | .cont => forGo it t b o ae n (i + 1) r.2
      | .brk => some (.next, r.2)
      | .ret v => some (.ret v, r.2)
def xFor (src : Act It) (t : TAct) (b o : Act AFlow) : Act AFlow := fun ae st => (src ae st).bind fun r => forGo r.1 t b o ae (isize r.1 r.2 + 1) 0 r.2
theorem letGo_ok {t : Expr} {it : It} {i : Nat} {a : Addr} {o : Obj} {v : Value} {Q : Unit → Shared → Prop} (hi : ItO ρ it (i + 1) o) (ho : s.heap.get? a = some o) (h : Q () s) : wpAny (model prog w) A (letOwnedTupleGo t (.ref a) v) Q NoE s := by
  unfold letOwnedTupleGo
  have key : wpAny (model prog w) A (do
    let (.ref r, .ref a) := (Value.ref a, v) | return
    let o ← load r
    match o.cls, o.data with
    | .type n, .fields vs =>
      if ["enumerate", "zip", "dict_itemiterator", "dict_reverseitemiterator", "odict_iterator", "itertools.zip_longest", "itertools.pairwise"].contains n && vs[0]? == some (rawInt a) then
        rule "for.unpacks-the-owned-tuple"
        updateField r 0 .none
    | _, _ => pure ()) Q NoE s := by
    cases v with
    | ref b =>
      refine wpAny_bind (wpAny_load ho ?_)
      cases it with
      | rng => obtain ⟨_, rfl⟩ := hi; exact wpAny_pure h
      | lst =>
        obtain ⟨l, _, e1, e2⟩ := hi
        rw [e1, e2]
        exact wpAny_pure h
      | rev =>
        obtain ⟨_, l, _, e1, e2⟩ := hi
        rw [e1, e2]
        exact wpAny_pure h
      | nil => obtain ⟨e, _⟩ := hi; omega
    | _ => exact wpAny_pure h
  cases t <;> first | exact key | exact wpAny_pure h
theorem sound_for {t e : Expr} {b o : List Stmt} {pos : Pos} {src : Act It} {ta : TAct} {ab ao : Act AFlow} (hs : ∀ (env : Env) x, foldedSetIterable e env x = pure x) (he : SoundI prog w G mg mb X Γ d e src) (ht : SoundG prog w G mg mb X Γ d t ta)
    (hb : SoundXs prog w G mg mb X Γ d b ab) (ho : SoundXs prog w G mg mb X Γ d o ao) : SoundX prog w G mg mb X Γ d (.For t e b o pos) (xFor src ta ab ao) := by
  intro B ae st r hB hr ρ env s A hA hE S
  obtain ⟨p, h1, hr⟩ := bind2 hr
  obtain ⟨it, ist⟩ := p
  refine wpAny_For (wpAny_mono (he B ae st _ hB h1 ρ env s A hA hE S) (fun x s1 k => wpAny_mono k (fun iv s2 k2 => ?_) fun _ _ e => e) fun _ _ e => e) (hs env)
  obtain ⟨ρ2, a, o2, e2, S2, hap, hi, rfl⟩ := k2
  refine codeAny_forLoop_any (fun m s' => ∃ i ρ' st' o', ρ <+: ρ' ∧ SR (B.pin a o') ρ' st' s' ∧ ItO ρ' it i o' ∧ forGo it ta ab ao ae m i st' = some r) (fun m s3 hI => ?_) _ ⟨0, ρ2, ist, o2, e2, S2, hi, hr⟩
  obtain ⟨i, ρ3, st3, o3, e3, S3, hi3, hr3⟩ := hI
  cases m with
  | zero => cases hr3
  | succ m =>
    obtain ⟨x, h2, hr4⟩ := bind2 hr3
    refine wpAny_mono (next_ok hA h2 S3 hap hi3) (fun v s4 k4 => ?_) fun _ _ e => e.elim
    cases x with
    | none =>
      obtain ⟨rfl, S4⟩ := k4
      exact wpAny_mono (ho B ae _ r hB hr4 ρ3 env s4 A hA (hE.mono e3) S4) (fun f s5 k5 => k5.up e3) fun _ _ e => e.elim
    | some x =>
      obtain ⟨v', o4, rfl, hv, S4, hi4⟩ := k4
      obtain ⟨st5, h5, hr5⟩ := bind2 hr4
      obtain ⟨q, h6, hr6⟩ := bind2 hr5
      refine wpAny_mono (letGo_ok (t := t) (v := v') hi4 S4.pinGet ?_) (fun _ _ q => q) fun _ _ e => e.elim
      have hB' := hB.pin a o4
      refine wpAny_mono (ht _ x ae st3 st5 hB' h5 ρ3 env s4 A v' hA (hE.mono e3) hv S4) (fun u s5 ⟨ρ5, e5, S5⟩ => ?_) fun _ _ e => e.elim
      refine wpAny_mono (hb _ ae st5 q hB' h6 ρ5 env s5 A hA (hE.mono (e3.trans e5)) S5) (fun f s6 k6 => ?_) fun _ _ e => e.elim
      obtain ⟨qf, qs⟩ := q
      obtain ⟨ρ6, e6, S6, hf⟩ := k6
      have e36 := e3.trans (e5.trans e6)
      cases qf with
      | next => cases hf; exact ⟨m, Nat.lt_succ_self _, i + 1, ρ6, qs, o4, e36, S6, hi4.mono (e5.trans e6), hr6⟩
      | cont => cases hf; exact ⟨m, Nat.lt_succ_self _, i + 1, ρ6, qs, o4, e36, S6, hi4.mono (e5.trans e6), hr6⟩
      | brk => cases hf; cases hr6; exact ⟨ρ6, e36, S6.unpinned, rfl⟩
      | ret v => obtain ⟨v', rfl, hv⟩ := hf; cases hr6; exact ⟨ρ6, e36, S6.unpinned, _, rfl, hv⟩
end
def emitThen (elt : Expr) (gens : List Comprehension) (scope : Scope) (pos : Pos) (dep : Nat) (acc : Value) (env : Env) (k : Sem Fin) : Sem Fin := match gens[dep + 1]? with
  | some g' => do
    let x ← eval g'.iter env
    standAt g'.iter.pos
    if (g'.is_async != 0) = true then do
      let x ← foldedIterable g'.iter x
      let it ← holding [x] (if (g'.is_async != 0) = true then asyncIter x else pyIter x)
      let _ ← runOwn (.compStart (.ListComp elt gens scope pos) (dep + 1) it acc env) env
      k
    else do
      let x ← foldedSetIterable g'.iter env x
      let it ← holding [x] (if (g'.is_async != 0) = true then asyncIter x else pyIter x)
      let _ ← runOwn (.compStart (.ListComp elt gens scope pos) (dep + 1) it acc env) env
      k
  | none => do
    (do let _ ← call (.builtin "list.append") [acc, ← eval elt env]; pure ())
    k
theorem compTurn_eq {elt target iter : Expr} {ifs : List Expr} {gens : List Comprehension} {dep : Nat} (h : gens[dep]? = some ⟨target, iter, ifs, 0⟩) (scope : Scope) (pos : Pos) (it acc : Value) (env : Env) :
    compTurn (.ListComp elt gens scope pos) dep it acc env = (do
      standAt iter.pos
      match ← pyNext it with
      | none => pure (.done .next)
      | some v =>
        letOwnedTupleGo target it v
        assign target env v
        let ok ← forIn ifs true fun c r => if r = true then do let ok ← PySem.isTrue c env (eval c env); pure (ForInStep.yield ok) else pure (ForInStep.yield r)
        if ok = true then emitThen elt gens scope pos dep acc env (again (.compLoop (.ListComp elt gens scope pos) dep it acc env))
        else again (.compLoop (.ListComp elt gens scope pos) dep it acc env)) := by
  unfold compTurn
  simp only [h]
  unfold emitThen
  cases gens[dep + 1]? with
  | none => rfl
  | some g' => rfl
def testsGo : List (Act Bool) → Act Bool
  | [], _, st => some (true, st)
  | t :: ts, ae, st => (t ae st).bind fun r => if r.1 then testsGo ts ae r.2 else some (false, r.2)
def compLp (it : It) (t : TAct) (ts : List (Act Bool)) (emit : AEnv → St → Option St) (ae : AEnv) : Nat → Nat → St → Option St
  | 0, _, _ => .none
  | n + 1, i, st => (inext it i st).bind fun x => match x with
    | .none => some st
    | some x => (t x ae st).bind fun st1 => (testsGo ts ae st1).bind fun p => if p.1 then (emit ae p.2).bind fun st2 => compLp it t ts emit ae n (i + 1) st2 else compLp it t ts emit ae n (i + 1) p.2
def appendAt (k : Nat) (v : AV) (st : St) : Option St := match st[k]? with
  | some (.list xs) => if xs.length ≤ 1000000 then some (st.set k (.list (xs ++ [v]))) else .none
  | _ => .none
def emitApp (a : Act AV) (acc : Nat) : AEnv → St → Option St := fun ae st => (a ae st).bind fun r => appendAt acc r.1 r.2
def emitFor (src : Act It) (t : TAct) (ts : List (Act Bool)) (emit : AEnv → St → Option St) : AEnv → St → Option St := fun ae st =>
  (src ae st).bind fun r => compLp r.1 t ts emit ae (isize r.1 r.2 + 1) 0 r.2
section
variable {prog : Program} {w : World} {G : List (Str × AV)} {mg mb : Str → Option Value} {X : Heap → List TabD → Prop} {Γ : Sc} {d : Nat} {A : Around} {s : Shared} {B : Base} {ρ : List Addr} {st : St}
inductive STs (prog : Program) (w : World) (G : List (Str × AV)) (mg mb : Str → Option Value) (X : Heap → List TabD → Prop) (Γ : Sc) (d : Nat) : List Expr → List (Act Bool) → Prop
  | nil : STs prog w G mg mb X Γ d [] []
  | cons {e es a as} : SoundT prog w G mg mb X Γ d e a → STs prog w G mg mb X Γ d es as → STs prog w G mg mb X Γ d (e :: es) (a :: as)
theorem tests_false {env : Env} {E : Value → Shared → Prop} : ∀ (es : List Expr) {Q : Bool → Shared → Prop} {s : Shared}, Q false s →
    wpAny (model prog w) A (forIn es false fun c r => if r = true then do let ok ← PySem.isTrue c env (eval c env); pure (ForInStep.yield ok) else pure (ForInStep.yield r)) Q E s
  | [], _, _, h => wpAny_pure h
  | e :: es, _, _, h => by
    simp only [List.forIn_cons, Bool.false_eq_true, if_false]
    exact wpAny_bind (wpAny_pure (tests_false es h))
theorem STs.run {es as} (h : STs prog w G mg mb X Γ d es as) : ∀ {B : Base} {ae : AEnv} {st : St} {r : Bool × St}, GoodB G mg mb X B → testsGo as ae st = some r → ∀ {ρ : List Addr} {env : Env} {s : Shared} {A : Around}, Room A d → ER Γ ρ ae env → SR B ρ st s →
    wpAny (model prog w) A (forIn es true fun c r => if r = true then do let ok ← PySem.isTrue c env (eval c env); pure (ForInStep.yield ok) else pure (ForInStep.yield r)) (PostB B ρ r) NoE s := by
  induction h with
  | nil =>
    intro B ae st r hB h ρ env s A hA hE S
    cases h
    exact wpAny_pure (PostB.here S rfl)
  | cons hg _ ih =>
    intro B ae st r hB h ρ env s A hA hE S
    obtain ⟨p, h1, h2⟩ := bind2 h
    simp only [List.forIn_cons, if_true]
    refine wpAny_bind (wpAny_bind (wpAny_mono (hg B ae st p hB h1 ρ env s A hA hE S) (fun b s1 ⟨ρ1, e1, S1, k1⟩ => wpAny_pure ?_) fun _ _ e => e))
    subst k1
    show wpAny _ _ (forIn _ _ _) _ _ _
    split at h2
    · rename_i hc
      rw [hc]
      exact wpAny_mono (ih hB h2 hA (hE.mono e1) S1) (fun _ _ k => k.up e1) fun _ _ e => e
    · rename_i hc
      have hc : p.1 = false := by simpa using hc
      rw [hc]
      cases h2
      exact tests_false _ ⟨ρ1, e1, S1, rfl⟩
theorem append_ok {k : Nat} {v : AV} {st' : St} (h : appendAt k v st = some st') (S : SR B ρ st s) {l x : Value} (hl : VR ρ (.ref k) l) (hv : VR ρ v x) :
    wpAny (model prog w) A (call (.builtin "list.append") [l, x]) (fun r s' => r = .none ∧ SR B ρ st' s') NoE s := by
  unfold appendAt at h
  split at h
  · rename_i xs hst
    split at h
    · rename_i hb
      cases h
      obtain ⟨a, ha, rfl⟩ := hl
      obtain ⟨o, ho, hor⟩ := S.obj _ _ _ ha hst
      obtain ⟨vs, n, hl, hvs⟩ := list_of ho hor
      have len := hvs.length
      refine call_meets F.slot_list_append ⟨_, hl, rfl⟩ F.entry_list_append (F.args_list_append_2 _ _) (PySem.list_append a vs.toArray n x (by have := sizeLine_eq; simp only [List.size_toArray]; omega)) ⟨hl, rfl, ?_⟩
      refine S.update (tk := s.toks) ha hst rfl (fun b ob hne e => (Heap.get?_update_other _ _ (Ne.symm hne)).trans e) (hl.update (·.push x)) ?_
      exact ⟨vs ++ [x], n + 1, by simp, hvs.append (.cons hv .nil)⟩
    · cases h
  · cases h
theorem iter_self {it : It} {i : Nat} {a : Addr} {o : Obj} {Q : Value → Shared → Prop} (S : SR (B.pin a o) ρ st s) (hi : ItO ρ it i o) (h : Q (.ref a) s) : wpAny (model prog w) A (pyIter (.ref a)) Q NoE s := by
  have hg := S.pinGet
  cases it with
  | rng => obtain ⟨_, rfl⟩ := hi; exact wpAny_pyIter_rangeiter hg h
  | lst => obtain ⟨l, _, e1, e2⟩ := hi; exact wpAny_pyIter_listiter ⟨o, hg, e1, e2⟩ h
  | rev => obtain ⟨_, l, _, e1, e2⟩ := hi; exact wpAny_pyIter_revIter ⟨o, hg, e1, e2⟩ h
  | nil => obtain ⟨_, dx, ok, ov, _, rfl⟩ := hi; exact kcp_self hg h
theorem comp_start {elt target iter : Expr} {ifs : List Expr} {gens : List Comprehension} {dep : Nat} {R : Result → Shared → Prop} {it : It} {i : Nat} {a : Addr} {o : Obj} {acc : Value} {env : Env} {scope : Scope} {pos : Pos} (hg : gens[dep]? = some ⟨target, iter, ifs, 0⟩)
    (S : SR (B.pin a o) ρ st s) (hi : ItO ρ it i o) (h0 : codeAny (model prog w) A (.compLoop (.ListComp elt gens scope pos) dep (.ref a) acc env) R s) :
    codeAny (model prog w) A (.compStart (.ListComp elt gens scope pos) dep (.ref a) acc env) R s := by
  refine codeAny_of_tree ?_
  show wpAny _ _ ((compStart (.ListComp elt gens scope pos) dep (.ref a) acc env).onRaise (fun x => do noteFrame x env; standAt theWindowsPlace)) _ _ s
  refine wpAny_notedAt ?_
  unfold compStart
  have hc : clausesOf (.ListComp elt gens scope pos) = gens := rfl
  rw [hc, hg]
  show wpAny _ _ (ask >>= _) _ _ s
  refine wpAny_bind (wpAny_askSetting (wpAny_ite ?_))
  split
  · first
      | exact wpAny_bind (wpAny_pure (wpAny_pure (And.intro rfl h0)))
      | exact wpAny_pure (And.intro rfl h0)
  · have k : wpAny (model prog w) A (pyIter (.ref a)) (fun it' s' => codeAny (model prog w) A (.compLoop (.ListComp elt gens scope pos) dep it' acc env) R s') (notedBy (model prog w) A env fun x s' => R (.error x) s') s := wpAny_mono (iter_self S hi h0) (fun _ _ q => q) fun _ _ e => e.elim
    first
      | exact wpAny_bind (wpAny_rule (wpAny_bind (wpAny_standAt (wpAny_bind (wpAny_mono k (fun it' s' h' => wpAny_pure (And.intro rfl h')) fun _ _ x => x)))))
      | (refine wpAny_bind (wpAny_rule ?_); show wpAny _ _ (standAt iter.pos >>= _) _ _ s; exact wpAny_bind (wpAny_standAt (wpAny_bind (wpAny_mono k (fun it' s' h' => wpAny_pure (And.intro rfl h')) fun _ _ x => x))))
def SoundM' (prog : Program) (w : World) (G : List (Str × AV)) (mg mb : Str → Option Value) (X : Heap → List TabD → Prop) (Γ : Sc) (d : Nat) (elt : Expr) (gens : List Comprehension) (scope : Scope) (pos : Pos) (dep acc : Nat) (emit : AEnv → St → Option St) : Prop :=
  ∀ (B : Base) (ae : AEnv) (st st' : St), GoodB G mg mb X B → emit ae st = some st' → ∀ (ρ : List Addr) (env : Env) (s : Shared) (A : Around) (accv : Value) (k : Sem Fin) (Q : Fin → Shared → Prop) (E : Value → Shared → Prop), Room A d → ER Γ ρ ae env → VR ρ (.ref acc) accv → SR B ρ st s →
    (∀ ρ' s', ρ <+: ρ' → SR B ρ' st' s' → wpAny (model prog w) A k Q E s') → wpAny (model prog w) A (emitThen elt gens scope pos dep accv env k) Q E s
theorem comp_loop {elt target iter : Expr} {ifs : List Expr} {gens : List Comprehension} {dep acc : Nat} {R : Result → Shared → Prop} {it : It} {a : Addr} {accv : Value} {env : Env} {scope : Scope} {pos : Pos} {t : TAct} {ts : List (Act Bool)} {emit : AEnv → St → Option St} {ae : AEnv} {st' : St} {n i : Nat} {o : Obj}
    (hg : gens[dep]? = some ⟨target, iter, ifs, 0⟩) (ht : SoundG prog w G mg mb X Γ d target t) (hts : STs prog w G mg mb X Γ d ifs ts) (hem : SoundM' prog w G mg mb X Γ d elt gens scope pos dep acc emit)
    (hB : GoodB G mg mb X B) (hr : compLp it t ts emit ae n i st = some st') (hA : Room A d) (hE : ER Γ ρ ae env) (hacc : VR ρ (.ref acc) accv) (S : SR (B.pin a o) ρ st s) (hap : Apart B a) (hi : ItO ρ it i o)
    (hR : ∀ ρ' s', ρ <+: ρ' → SR B ρ' st' s' → R (.ok .next) s') :
    codeAny (model prog w) A (.compLoop (.ListComp elt gens scope pos) dep (.ref a) accv env) R s := by
  refine codeAny_loop rfl (fun m s' => ∃ i ρ' st1 o', ρ <+: ρ' ∧ SR (B.pin a o') ρ' st1 s' ∧ ItO ρ' it i o' ∧ compLp it t ts emit ae m i st1 = some st') (fun m s1 hI => ?_) n ⟨i, ρ, st, o, List.prefix_refl _, S, hi, hr⟩
  obtain ⟨i, ρ1, st1, o1, e1, S1, hi1, hr1⟩ := hI
  show wpAny _ A ((compTurn (.ListComp elt gens scope pos) dep (.ref a) accv env).onRaise (fun x => do noteFrame x env; theTreesLotGoes x)) _ _ s1
  refine wpAny_noted ?_
  rw [compTurn_eq hg]
  cases m with
  | zero => cases hr1
  | succ m =>
    obtain ⟨x, h2, hr2⟩ := bind2 hr1
    refine wpAny_bind (wpAny_standAt (wpAny_bind (wpAny_mono (next_ok hA h2 S1 hap hi1) (fun v s2 k2 => ?_) fun _ _ e => e.elim)))
    cases x with
    | none =>
      obtain ⟨rfl, S2⟩ := k2
      cases hr2
      exact wpAny_pure (hR ρ1 s2 e1 S2)
    | some x =>
      obtain ⟨v', o2, rfl, hv, S2, hi2⟩ := k2
      obtain ⟨st3, h3, hr3⟩ := bind2 hr2
      obtain ⟨p, h4, hr4⟩ := bind2 hr3
      have hB' := hB.pin a o2
      refine wpAny_bind (wpAny_mono (letGo_ok (t := target) (v := v') (Q := fun _ s' => s' = s2) hi2 S2.pinGet rfl) (fun _ s2' q => ?_) fun _ _ e => e.elim)
      subst q
      refine wpAny_bind (wpAny_mono (ht _ x ae st1 st3 hB' h3 ρ1 env s2' A v' hA (hE.mono e1) hv S2) (fun u s3 ⟨ρ3, e3, S3⟩ => ?_) fun _ _ e => e.elim)
      refine wpAny_bind (wpAny_mono (hts.run hB' h4 hA (hE.mono (e1.trans e3)) S3) (fun ok s4 ⟨ρ4, e4, S4, hok⟩ => ?_) fun _ _ e => e.elim)
      have e14 := e1.trans (e3.trans e4)
      subst hok
      split at hr4
      · rename_i hc
        rw [if_pos hc]
        obtain ⟨st5, h5, hr5⟩ := bind2 hr4
        refine hem _ ae p.2 st5 hB' h5 ρ4 env s4 A accv _ _ _ hA (hE.mono e14) (hacc.mono e14) S4 fun ρ5 s5 e5 S5 => ?_
        exact wpAny_pure ⟨rfl, m, Nat.lt_succ_self _, i + 1, ρ5, st5, o2, e14.trans e5, S5, hi2.mono (e3.trans (e4.trans e5)), hr5⟩
      · rename_i hc
        rw [if_neg hc]
        exact wpAny_pure ⟨rfl, m, Nat.lt_succ_self _, i + 1, ρ4, p.2, o2, e14, S4, hi2.mono (e3.trans e4), hr4⟩
theorem sound_emitApp {elt : Expr} {gens : List Comprehension} {scope : Scope} {pos : Pos} {dep acc : Nat} {a : Act AV} (hg : gens[dep + 1]? = none) (ha : SoundE prog w G mg mb X Γ d elt a) :
    SoundM' prog w G mg mb X Γ d elt gens scope pos dep acc (emitApp a acc) := by
  intro B ae st st' hB h ρ env s A accv k Q E hA hE hacc S hk
  obtain ⟨r, h1, h2⟩ := bind2 h
  unfold emitThen
  rw [hg]
  refine wpAny_bind (wpAny_bind (wpAny_mono (ha B ae st r hB h1 ρ env s A hA hE S) (fun v s1 ⟨ρ1, e1, S1, v1⟩ => ?_) fun _ _ e => e.elim))
  refine wpAny_bind (wpAny_mono (append_ok h2 S1 (hacc.mono e1) v1) (fun u s2 ⟨_, S2⟩ => wpAny_pure ?_) fun _ _ e => e.elim)
  exact hk ρ1 s2 e1 S2
theorem sound_emitFor {elt target iter : Expr} {ifs : List Expr} {gens : List Comprehension} {scope : Scope} {pos : Pos} {dep acc : Nat} {src : Act It} {t : TAct} {ts : List (Act Bool)} {emit : AEnv → St → Option St}
    (hg : gens[dep + 1]? = some ⟨target, iter, ifs, 0⟩) (hs : ∀ (env : Env) x, foldedSetIterable iter env x = pure x) (hi : SoundI prog w G mg mb X Γ d iter src) (ht : SoundG prog w G mg mb X Γ d target t) (hts : STs prog w G mg mb X Γ d ifs ts) (hem : SoundM' prog w G mg mb X Γ d elt gens scope pos (dep + 1) acc emit) :
    SoundM' prog w G mg mb X Γ d elt gens scope pos dep acc (emitFor src t ts emit) := by
  intro B ae st st' hB h ρ env s A accv k Q E hA hE hacc S hk
  obtain ⟨r, h1, h2⟩ := bind2 h
  unfold emitThen
  rw [hg]
  refine wpAny_bind (wpAny_mono (hi B ae st r hB h1 ρ env s A hA hE S) (fun v s1 k1 => ?_) fun _ _ e => e.elim)
  refine wpAny_bind (wpAny_standAt ?_)
  dsimp only
  rw [if_neg (by simp)]
  refine wpAny_bind (wpAny_of_eq (hs env v) ?_)
  refine wpAny_bind (wpAny_holding ?_)
  rw [if_neg (by simp)]
  refine wpAny_mono k1 (fun iv s2 k2 => ?_) fun _ _ e => e.elim
  obtain ⟨ρ2, a, o2, e2, S2, hap, hi2, rfl⟩ := k2
  refine wpAny_bind (wpAny_runOwn (h := none) ?_ (by intro x; cases x))
  refine comp_start hg S2 hi2 ?_
  have hA' : Room (A.mark none) d := ⟨hA.handled, hA.depth, hA.units⟩
  exact comp_loop hg ht hts hem hB h2 hA' (hE.mono e2) (hacc.mono e2) S2 hap hi2 fun ρ3 s3 e3 S3 => hk ρ3 s3 (e2.trans e3) S3
end
def AV.no (k : Nat) : AV → Bool
  | .ref j => j != k
  | _ => true
def optNo (k : Nat) : Option AV → Bool
  | some v => v.no k
  | .none => true
def AO.no (k : Nat) : AO → Bool
  | .list xs => xs.all (AV.no k)
  | .rlist xs => xs.all (AV.no k)
  | .tup xs => xs.all (AV.no k)
  | .ns _ m => m.all (optNo k)
  | .cell v => match v with | some v => v.no k | .none => true
  | .fn _ _ _ _ cl _ => cl.all (fun p => p.2 != k)
  | .inst _ d => d != k
  | .edict => true
  | .dview d => d != k
  | .eset => true
  | .set1 _ => true
  | .any => true
def down (k j : Nat) : Nat := if j < k then j else j - 1
def up (k j : Nat) : Nat := if j < k then j else j + 1
theorem up_down {k j : Nat} (h : j ≠ k) : up k (down k j) = j := by
  unfold up down
  by_cases h1 : j < k
  · simp [h1]
  · rw [if_neg h1, if_neg (by omega)]; omega
theorem AV.up_down {k : Nat} {v : AV} (h : v.no k = true) : (v.ren (down k)).ren (up k) = v := by
  cases v <;> first | rfl | skip
  rename_i j
  exact congrArg AV.ref (Mine.up_down (by simpa [AV.no] using h))
theorem map_up_down {k : Nat} : ∀ {xs : List AV}, xs.all (AV.no k) = true → (xs.map (AV.ren (down k))).map (AV.ren (up k)) = xs
  | [], _ => rfl
  | x :: xs, h => by
    rw [List.all_cons, Bool.and_eq_true] at h
    simp only [List.map_cons, AV.up_down h.1, map_up_down h.2]
theorem opt_up_down {k : Nat} : ∀ {m : List (Option AV)}, m.all (optNo k) = true → (m.map fun p => p.map (AV.ren (down k))).map (fun p => p.map (AV.ren (up k))) = m
  | [], _ => rfl
  | .none :: m, h => by
    rw [List.all_cons, Bool.and_eq_true] at h
    simp only [List.map_cons, Option.map_none, opt_up_down h.2]
  | some v :: m, h => by
    rw [List.all_cons, Bool.and_eq_true] at h
    simp only [List.map_cons, Option.map_some, opt_up_down h.2, AV.up_down h.1]
theorem AO.up_down {k : Nat} {ao : AO} (h : ao.no k = true) : (ao.ren (down k)).ren (up k) = ao := by
  cases ao with
  | list xs => exact congrArg AO.list (map_up_down h)
  | rlist xs => exact congrArg AO.rlist (map_up_down h)
  | tup xs => exact congrArg AO.tup (map_up_down h)
  | ns nm m => exact congrArg (AO.ns nm) (opt_up_down h)
  | cell v =>
    cases v with
    | none => rfl
    | some v => exact congrArg (fun x => AO.cell (some x)) (AV.up_down h)
  | fn p b s q cl c =>
    have h' : cl.all (fun p => p.2 != k) = true := h
    have h1 : (cl.map fun p => (p.1, down k p.2)).map (fun p => (p.1, up k p.2)) = cl := by
      clear h
      induction cl with
      | nil => rfl
      | cons p cl ih =>
        rw [List.all_cons, Bool.and_eq_true] at h'
        simp only [List.map_cons]
        rw [ih h'.2, Mine.up_down (by simpa using h'.1)]
    exact congrArg (fun x => AO.fn p b s q x c) h1
  | inst C d => exact congrArg (AO.inst C) (Mine.up_down (by simpa [AO.no] using h))
  | edict => rfl
  | dview d => exact congrArg AO.dview (Mine.up_down (by simpa [AO.no] using h))
  | eset => rfl
  | set1 _ => rfl
  | any => rfl
def dropSlot (k : Nat) (st : St) : Option St := if k < st.length ∧ (st.eraseIdx k).all (AO.no k) = true then some ((st.eraseIdx k).map (AO.ren (down k))) else .none
section
variable {B : Base} {ρ : List Addr} {st : St} {s : Shared}
theorem erase_get (st : St) (k j : Nat) : (st.eraseIdx k)[j]? = st[up k j]? := by
  unfold up
  rw [List.getElem?_eraseIdx]
  split <;> rfl
theorem SR.drop {k : Nat} {st2 : St} (S : SR B ρ st s) (h : dropSlot k st = some st2) :
    ∃ ρ2, (∀ j, j < k → ρ2[j]? = ρ[j]?) ∧ SR B ρ2 st2 s ∧ (∀ v v', v.no k = true → VR ρ v v' → VR ρ2 (v.ren (down k)) v') ∧ ∀ a, ρ[k]? = some a → a ∉ ρ2 := by
  unfold dropSlot at h
  split at h
  · rename_i hc
    cases h
    have hlen : ((st.eraseIdx k).map (AO.ren (down k))).length = st.length - 1 := by rw [List.length_map, List.length_eraseIdx, if_pos hc.1]
    obtain ⟨ρ2, h1, h2, h3⟩ := S.retract (up k) _ (fun j ao2 e => by
      rw [List.getElem?_map, erase_get] at e
      cases h5 : st[up k j]? with
      | none => rw [h5] at e; cases e
      | some ao =>
        rw [h5] at e; cases e
        have : (st.eraseIdx k)[j]? = some ao := by rw [erase_get]; exact h5
        have hm := List.mem_iff_getElem?.mpr ⟨j, this⟩
        rw [AO.up_down (List.all_eq_true.mp hc.2 ao hm)])
      (fun i j hi hj e => by unfold up at e; split at e <;> split at e <;> omega)
      (fun j hj => by unfold up; rw [hlen] at hj; split <;> omega)
    have len2 := h2.len
    rw [hlen] at len2
    refine ⟨ρ2, fun j hj => ?_, h2, fun v v' hn hv => h3 _ _ (by rw [AV.up_down hn]; exact hv), fun a ha hm => ?_⟩
    · rw [h1 j (by rw [hlen]; have := hc.1; omega)]
      unfold up; rw [if_pos hj]
    · obtain ⟨j, hj⟩ := List.mem_iff_getElem?.mp hm
      have hlt := (List.getElem?_eq_some_iff.mp hj).1
      rw [h1 j (by rw [hlen]; omega)] at hj
      obtain ⟨p, p'⟩ := List.getElem?_eq_some_iff.mp hj
      obtain ⟨q, q'⟩ := List.getElem?_eq_some_iff.mp ha
      have := (List.getElem_inj S.nd).mp (p'.trans q'.symm)
      unfold up at this
      split at this <;> omega
  · cases h
theorem prefix_of {ρ0 ρ ρ2 : List Addr} {k : Nat} (h : ρ0 <+: ρ) (hk : ρ0.length ≤ k) (h2 : ∀ j, j < k → ρ2[j]? = ρ[j]?) : ρ0 <+: ρ2 := by
  rw [List.prefix_iff_getElem?]
  intro i hi
  rw [h2 i (by omega)]
  exact pre_get h (List.getElem?_eq_getElem hi)
theorem SR.but {a : Addr} {h' : Heap} {tk : Nat} (S : SR B ρ st s) (hout : a ∉ ρ) (hap : Apart B a) (hne : ∀ t ∈ B.tabs, ∀ b, Rsv s.heap t b → b ≠ a) (hk : ∀ b x, b ≠ a → s.heap.get? b = some x → h'.get? b = some x) : SR B ρ st { s with heap := h', toks := tk } := by
  refine ⟨fun b x hx => hk b x (fun e => hap x (e ▸ hx)) (S.keep b x hx), S.len, S.nd, S.apart, fun k b ao hb hao => ?_, S.gens, S.os, S.eds, fun t ht => (S.tab t ht).move (fun b x r e => hk b x (hne t ht b r) e) (S.tab t ht).off, fun k b ps body sc q cl P hb hao => (S.fns k b ps body sc q cl P hb hao).move (fun x e => hk b x (fun q => hout (q ▸ List.mem_iff_getElem?.mpr ⟨k, hb⟩)) e) (fun t ht x e => hk _ x (hne t ht _ (.inl rfl)) e) rfl⟩
  obtain ⟨ob, h1, h2⟩ := S.obj k b ao hb hao
  exact ⟨ob, hk b ob (fun e => hout (e ▸ List.mem_iff_getElem?.mpr ⟨k, hb⟩)) h1, h2⟩
end
def pick (cells : List Nat) : List Nat → Option (List Nat)
  | [] => some []
  | j :: js => (cells[j]?).bind fun c => (pick cells js).bind fun r => some (c :: r)
def compRun (src : Act It) (nm : List Str) (sel : List Nat) (t : TAct) (ts : List (Act Bool)) (emit : Nat → AEnv → St → Option St) : Act Nat := fun ae st => (src ae st).bind fun r =>
  (pick ae.cells sel).bind fun cs =>
  (compLp r.1 t ts (emit r.2.length) ⟨r.2.length + 1, cs, ae.code⟩ (isize r.1 r.2 + 1) 0 (r.2 ++ [.list [], .ns nm (nm.map fun _ => .none)])).bind fun st2 => some (r.2.length, st2)
def isNs (st : St) (k : Nat) : Bool := match st[k]? with | some (.ns _ _) => true | _ => false
def CleanRun (st : St) (r : Nat × St) : Prop := ∃ xs nm m, r = (st.length, st ++ [.list xs, .ns nm m]) ∧ xs.all AV.flat = true
noncomputable def bComp (run : Act Nat) : Act AV := fun ae st => (run ae st).bind fun r => open Classical in if CleanRun st r then some (.ref r.1, r.2.take (st.length + 1)) else
  if isNs r.2 (r.1 + 1) then (dropSlot (r.1 + 1) r.2).bind fun st3 => some (.ref r.1, st3) else .none
def xAsgComp (run : Act Nat) (t : TAct) : Act AFlow := fun ae st => (run ae st).bind fun r => (t (.ref r.1) ae r.2).bind fun st2 => if isNs st2 (r.1 + 1) then (dropSlot (r.1 + 1) st2).bind fun st3 => some (.next, st3) else .none
def freeOf (scope : Scope) : List Str := (scope.names.filter fun p => p.2 == .free).map (·.1)
def localsOf (scope : Scope) : List Str := (scope.names.filter fun p => p.2 == .local).map (·.1)
def relabelG (scope : Scope) (Γ : Sc) : Scope :=
  { scope with names := scope.names.map fun (n, k) => if (k == .free && Γ.scope.kind == .function && Γ.scope.names.lookup n == some .cell) then (n, .cell) else (n, k) }
def compSc (scope : Scope) (Γ : Sc) : Sc := { scope := relabelG scope Γ, nm := localsOf scope, cn := freeOf scope, G := Γ.G, qual := Γ.qual }
def clOf (names : List (Str × NameKind)) (f : Str → Addr) (cs : List (Str × Addr)) : List (Str × Addr) :=
  names.foldl (fun cs p => if p.2 == .free then (p.1, f p.1) :: cs else cs) cs
theorem closure_go {env : Env} (f : Str → Addr) : ∀ (names : List (Str × NameKind)) (cs : List (Str × Addr)), (∀ n, (n, NameKind.free) ∈ names → env.cells.lookup n = some (f n)) →
    (forIn names cs fun x r => if (x.2 == NameKind.free) = true then do let a ← cellOf env x.1; pure (ForInStep.yield ((x.1, a) :: r)) else pure (ForInStep.yield r) : Sem (List (Str × Addr))) = pure (clOf names f cs)
  | [], cs, _ => rfl
  | (n, k) :: names, cs, h => by
    rw [List.forIn_cons]
    have ih := fun cs => closure_go f names cs fun m hm => h m (List.mem_cons_of_mem _ hm)
    by_cases hk : (k == NameKind.free) = true
    · have : k = .free := by simpa using hk
      subst this
      simp only [hk, if_true]
      have hc : cellOf env n = pure (f n) := by unfold cellOf; rw [h n (List.mem_cons_self ..)]
      rw [hc]
      simp only [pure_bind]
      rw [ih]
      unfold clOf
      simp only [List.foldl_cons, hk, if_true]
    · simp only [hk, if_neg, Bool.false_eq_true, if_false, pure_bind]
      rw [ih]
      unfold clOf
      simp only [List.foldl_cons, hk, Bool.false_eq_true, if_false]
theorem closure_ok {scope : Scope} {env : Env} (f : Str → Addr) (h : ∀ n, (n, NameKind.free) ∈ scope.names → env.cells.lookup n = some (f n)) : closureFor scope env = pure (clOf scope.names f []) := by
  have := closure_go f scope.names [] h
  unfold closureFor
  show ((forIn scope.names [] fun x r => if (x.2 == NameKind.free) = true then do let a ← cellOf env x.1; pure (ForInStep.yield ((x.1, a) :: r)) else pure (ForInStep.yield r) : Sem (List (Str × Addr))) >>= fun r => pure r) = _
  rw [this, pure_bind]
theorem cl_lookup {f : Str → Addr} {x : Str} : ∀ (names : List (Str × NameKind)) (cs : List (Str × Addr)), ((x, NameKind.free) ∈ names ∨ cs.lookup x = some (f x)) → (clOf names f cs).lookup x = some (f x)
  | [], cs, h => by rcases h with h | h; exact (List.not_mem_nil h).elim; exact h
  | (n, k) :: names, cs, h => by
    unfold clOf
    rw [List.foldl_cons]
    refine cl_lookup names _ ?_
    by_cases hx : x = n ∧ k = .free
    · obtain ⟨rfl, rfl⟩ := hx
      right
      simp [List.lookup_cons]
    · rcases h with h | h
      · rcases List.mem_cons.mp h with h | h
        · cases h; exact (hx ⟨rfl, rfl⟩).elim
        · exact .inl h
      · right
        by_cases hk : (k == NameKind.free) = true
        · have : k = .free := by simpa using hk
          subst this
          simp only [hk, if_true]
          rw [List.lookup_cons]
          have : (x == n) = false := by simpa using fun e => hx ⟨e, rfl⟩
          rw [this]; exact h
        · simp only [hk, Bool.false_eq_true, if_false]; exact h
section
variable {prog : Program} {w : World} {G : List (Str × AV)} {mg mb : Str → Option Value} {X : Heap → List TabD → Prop} {Γ : Sc} {d : Nat} {A : Around} {s : Shared} {B : Base} {ρ : List Addr} {st : St}
theorem relabel_eq {scope : Scope} {ae : AEnv} {env : Env} (hE : ER Γ ρ ae env) : relabel scope env = relabelG scope Γ := by
  unfold relabel relabelG
  have : ∀ n, env.kindOf n = Γ.scope.names.lookup n := hE.kindOf
  simp only [this, hE.scope]
theorem pick_get : ∀ {js cells cs : List Nat}, pick cells js = some cs → ∀ {i j : Nat}, js[i]? = some j → ∃ k, cs[i]? = some k ∧ cells[j]? = some k
  | [], _, _, h, i, j, hj => by simp at hj
  | j0 :: js, cells, cs, h, i, j, hj => by
    obtain ⟨c, h1, h⟩ := bind2 h
    obtain ⟨r, h2, h⟩ := bind2 h
    cases h
    cases i with
    | zero => simp at hj; subst hj; exact ⟨c, rfl, h1⟩
    | succ i => simpa using pick_get h2 (by simpa using hj)
structure CompOk (Γ : Sc) (scope : Scope) : Prop where
  kind : scope.kind = .function
  nocell : ∀ y ∈ scope.names, y.2 ≠ .cell
  names : ∀ y ∈ scope.names, y.2 = .local → scope.names.lookup y.1 = some .local
  free : ∀ y ∈ freeOf scope, y ∈ Γ.cn
def selOf (Γ : Sc) (scope : Scope) : List Nat := (freeOf scope).map Γ.cn.idxOf
theorem comp_env {scope : Scope} {ae : AEnv} {env : Env} {cs : List Nat} (ok : CompOk Γ scope) (hE : ER Γ ρ ae env) (hp : pick ae.cells (selOf Γ scope) = some cs) :
    ∃ cl, closureFor scope env = pure cl ∧ ∀ (ρ' : List Addr) (fr : Nat) (C : Addr), ρ <+: ρ' → ρ'[fr]? = some C → ER (compSc scope Γ) ρ' ⟨fr, cs, ae.code⟩ { newEnv scope C env.globals cl env.qual none .none (some env) builtinsNs with scope := relabel scope env } := by
  have key : ∀ x, x ∈ freeOf scope → ∃ k c, cs[(freeOf scope).idxOf x]? = some k ∧ ρ[k]? = some c ∧ env.cells.lookup x = some c := fun x hx => by
    obtain ⟨k, h1, h2⟩ := pick_get hp (i := (freeOf scope).idxOf x) (j := Γ.cn.idxOf x) (by
      unfold selOf
      rw [List.getElem?_map, idx_get hx]; rfl)
    obtain ⟨c, h3, h4⟩ := hE.cells x k (ok.free x hx) h2
    exact ⟨k, c, h1, h3, h4⟩
  have mem : ∀ n, (n, NameKind.free) ∈ scope.names → n ∈ freeOf scope := fun n hn => List.mem_map.mpr ⟨(n, .free), List.mem_filter.mpr ⟨hn, by rfl⟩, rfl⟩
  refine ⟨clOf scope.names (fun x => (env.cells.lookup x).getD 0) [], closure_ok _ (fun n hn => ?_), fun ρ' fr C hρ hC => ?_⟩
  · obtain ⟨k, c, _, _, h⟩ := key n (mem n hn)
    rw [h]; rfl
  · refine ⟨relabel_eq hE, ok.kind, hC, fun x k hx hk => ?_, hE.glob, hE.blt, hE.qual, hE.code⟩
    obtain ⟨k', c, h1, h2, h3⟩ := key x hx
    have : k = k' := by
      have hk : cs[(freeOf scope).idxOf x]? = some k := hk
      rw [h1] at hk; exact (Option.some.inj hk).symm
    subst this
    refine ⟨c, pre_get hρ h2, ?_⟩
    have hx' : (x, NameKind.free) ∈ scope.names := by
      obtain ⟨y, hy, e⟩ := List.mem_map.mp hx
      obtain ⟨h4, h5⟩ := List.mem_filter.mp hy
      obtain ⟨y1, y2⟩ := y
      have : y2 = .free := by simpa using h5
      subst this
      cases e
      exact h4
    have := cl_lookup (f := fun x => (env.cells.lookup x).getD 0) scope.names [] (.inl hx')
    rw [h3] at this
    exact this
end
section
variable {prog : Program} {w : World} {G : List (Str × AV)} {mg mb : Str → Option Value} {X : Heap → List TabD → Prop} {Γ : Sc} {d : Nat} {A : Around} {s : Shared} {B : Base} {ρ : List Addr} {st : St}
theorem all2_none {ρ : List Addr} {m : Str → Option Value} (nm : List Str) (h : ∀ x, m x = none) : ∀ x, x ∈ nm → OptR (VR ρ) ((nm.map fun _ => (.none : Option AV)).getD (nm.idxOf x) .none) (m x) := by
  intro x hx
  rw [h x]
  have : (nm.map fun _ => (.none : Option AV)).getD (nm.idxOf x) .none = .none := by
    rw [List.getD_eq_getElem?_getD, List.getElem?_map]
    cases nm[nm.idxOf x]? <;> rfl
  rw [this]; trivial
theorem comp_core {elt target iter : Expr} {ifs : List Expr} {gs : List Comprehension} {scope : Scope} {pos : Pos} {src : Act It} {t : TAct} {ts : List (Act Bool)} {emit : Nat → AEnv → St → Option St}
    (ok : CompOk Γ scope) (hs : ∀ (env : Env) x, foldedSetIterable iter env x = pure x) (hi : SoundI prog w G mg mb X Γ d iter src) (ht : SoundG prog w G mg mb X (compSc scope Γ) d target t) (hts : STs prog w G mg mb X (compSc scope Γ) d ifs ts)
    (hem : ∀ acc, SoundM' prog w G mg mb X (compSc scope Γ) d elt (⟨target, iter, ifs, 0⟩ :: gs) scope pos 0 acc (emit acc))
    (hB : GoodB G mg mb X B) {ae : AEnv} {r : Nat × St} (hr : compRun src (localsOf scope) (selOf Γ scope) t ts emit ae st = some r) {env : Env} (hA : Room A d) (hE : ER Γ ρ ae env) (S : SR B ρ st s)
    {use : Option (Value → Sem Unit)} {Q : Value → Shared → Prop} {pos' : Pos}
    (hQ : ∀ ρ' s' C accv, ρ <+: ρ' → SR B ρ' r.2 s' → VR ρ' (.ref r.1) accv → ρ'[r.1 + 1]? = some C → ρ.length ≤ r.1 → compPost (model prog w) A NoE use Q accv C (.ok .next) s') :
    wpAny (model prog w) A (comprehension (.ListComp elt (⟨target, iter, ifs, 0⟩ :: gs) scope pos) scope env pos' (newList []) false (eval iter env) use) Q NoE s := by
  obtain ⟨p, h1, hr⟩ := bind2 hr
  obtain ⟨cs, h2, hr⟩ := bind2 hr
  obtain ⟨st2, h3, hr⟩ := bind2 hr
  cases hr
  obtain ⟨cl, hcl, henv⟩ := comp_env ok hE h2
  refine wpAny_comprehension_free (g := ⟨target, iter, ifs, 0⟩) (gs := gs) rfl (hs env) hcl ok.kind ok.names (wpAny_mono (hi B ae st p hB h1 ρ env s A hA hE S) (fun x s1 k1 => wpAny_mono k1 (fun iv s2 k2 => ?_) fun _ _ e => e) fun _ _ e => e)
  obtain ⟨ρ2, a, o, e2, S2, hap, hi2, rfl⟩ := k2
  refine wpAny_newObj_type (wpAny_newFunctionEnv ok.nocell (by intro y hy; simp at hy) (fun h₁ hns₁ hsb₁ => ?_) ok.kind)
  dsimp only at hns₁ hsb₁ ⊢
  have S3 : SR (B.pin a o) (ρ2 ++ [s2.heap.objs.size]) (p.2 ++ [.list []]) { s2 with heap := s2.heap.push { cls := .type "list", dict := none, data := .seq ([] : List Value).toArray }, toks := s2.toks } :=
    S2.push rfl ⟨[], 0, rfl, .nil⟩
  obtain ⟨on, hon, hor⟩ := ns_to (nm := localsOf scope) (m := (localsOf scope).map fun _ => .none) (ρ := (ρ2 ++ [s2.heap.objs.size]) ++ [(s2.heap.push { cls := .type "list", dict := none, data := .seq ([] : List Value).toArray }).objs.size]) hns₁ (by simp) (all2_none _ fun x => rfl)
  have S4 := S3.alloc (h' := h₁) (tk := s2.toks + ([] : List (Str × Value)).length) (fun b ob e => hsb₁.extBut b ob (Nat.ne_of_lt (Heap.lt_size e)) (Heap.get?_push_of_some _ e)) (size_none _) hon hor
  have len2 : ρ2.length = p.2.length := S2.len
  have pre : ρ <+: (ρ2 ++ [s2.heap.objs.size]) ++ [(s2.heap.push { cls := .type "list", dict := none, data := .seq ([] : List Value).toArray }).objs.size] := e2.trans ((List.prefix_append _ _).trans (List.prefix_append _ _))
  have pre2 : ρ2 <+: (ρ2 ++ [s2.heap.objs.size]) ++ [(s2.heap.push { cls := .type "list", dict := none, data := .seq ([] : List Value).toArray }).objs.size] := (List.prefix_append _ _).trans (List.prefix_append _ _)
  have hfr : ((ρ2 ++ [s2.heap.objs.size]) ++ [(s2.heap.push { cls := .type "list", dict := none, data := .seq ([] : List Value).toArray }).objs.size])[p.2.length + 1]? = some (s2.heap.push { cls := .type "list", dict := none, data := .seq ([] : List Value).toArray }).objs.size := by
    rw [List.getElem?_append_right (by simp; omega)]
    simp [len2]
  have hacc : VR ((ρ2 ++ [s2.heap.objs.size]) ++ [(s2.heap.push { cls := .type "list", dict := none, data := .seq ([] : List Value).toArray }).objs.size]) (.ref p.2.length) (.ref s2.heap.objs.size) := by
    refine ⟨_, ?_, rfl⟩
    rw [List.append_assoc, List.getElem?_append_right (by omega)]
    simp [len2]
  have E4 := henv _ (p.2.length + 1) _ pre hfr
  refine comp_start (gens := ⟨target, iter, ifs, 0⟩ :: gs) (dep := 0) rfl S4 (hi2.mono pre2) ?_
  have h3' : compLp p.1 t ts (emit p.2.length) ⟨p.2.length + 1, cs, ae.code⟩ (isize p.1 p.2 + 1) 0 (p.2 ++ [.list []] ++ [.ns (localsOf scope) ((localsOf scope).map fun _ => .none)]) = some st2 := by
    rw [List.append_assoc]; exact h3
  refine comp_loop (gens := ⟨target, iter, ifs, 0⟩ :: gs) (dep := 0) rfl ht hts (hem _) hB h3' hA E4 hacc S4 hap (hi2.mono pre2) fun ρ5 s5 e5 S5 => ?_
  exact hQ ρ5 s5 _ _ (pre.trans e5) S5 (hacc.mono e5) (pre_get e5 hfr) (by have := S.len; have := List.IsPrefix.length_le e2; omega)
theorem isNs_get {st : St} {k : Nat} (h : isNs st k = true) : ∃ nm m, st[k]? = some (.ns nm m) := by
  unfold isNs at h
  split at h
  · rename_i nm m e; exact ⟨nm, m, e⟩
  · cases h
theorem SR.nsAt (S : SR B ρ st s) {k : Nat} {C : Addr} {nm : List Str} {m : List (Option AV)} (hC : ρ[k]? = some C) (h : st[k]? = some (.ns nm m)) : ∃ mm, s.heap.Ns C mm := by
  obtain ⟨o, ho, hor⟩ := S.obj _ _ _ hC h
  obtain ⟨mm, hns, _⟩ := ns_of ho hor
  exact ⟨mm, hns⟩
theorem SR.slotApart (S : SR B ρ st s) {k : Nat} {C : Addr} {nm : List Str} {m : List (Option AV)} (hC : ρ[k]? = some C) (h : st[k]? = some (.ns nm m)) : Apart B C := S.apart k C _ hC h rfl
theorem drop_ns {k : Nat} {st3 : St} {nm : List Str} {m : List (Option AV)} {C : Addr} {v : AV} {v' : Value} (S : SR B ρ st s) (hC : ρ[k]? = some C) (hst : st[k]? = some (.ns nm m)) (h : dropSlot k st = some st3) {ρ0 : List Addr} (h0 : ρ0 <+: ρ) (hk : ρ0.length ≤ k) {h' : Heap} (hs : Heap.SameBut C s.heap h') (hv : VR ρ v v') (hn : v.no k = true) :
    ∃ ρ2, ρ0 <+: ρ2 ∧ SR B ρ2 st3 { s with heap := h' } ∧ VR ρ2 (v.ren (down k)) v' := by
  obtain ⟨ρ2, a1, a2, a3, a4⟩ := S.drop h
  exact ⟨ρ2, prefix_of h0 hk a1, a2.but (tk := s.toks) (a4 C hC) (S.slotApart hC hst) (fun t ht b r e => ((S.tab t ht).off b r).1 (e ▸ List.mem_iff_getElem?.mpr ⟨k, hC⟩)) (fun b x hb e => (hs.2 b hb).trans e), a3 v v' hn hv⟩
theorem sound_comp {elt target iter : Expr} {ifs : List Expr} {gs : List Comprehension} {scope : Scope} {pos : Pos} {src : Act It} {t : TAct} {ts : List (Act Bool)} {emit : Nat → AEnv → St → Option St}
    (ok : CompOk Γ scope) (hs : ∀ (env : Env) x, foldedSetIterable iter env x = pure x) (hi : SoundI prog w G mg mb X Γ d iter src) (ht : SoundG prog w G mg mb X (compSc scope Γ) d target t) (hts : STs prog w G mg mb X (compSc scope Γ) d ifs ts)
    (hem : ∀ acc, SoundM' prog w G mg mb X (compSc scope Γ) d elt (⟨target, iter, ifs, 0⟩ :: gs) scope pos 0 acc (emit acc)) :
    SoundE prog w G mg mb X Γ d (.ListComp elt (⟨target, iter, ifs, 0⟩ :: gs) scope pos) (bComp (compRun src (localsOf scope) (selOf Γ scope) t ts emit)) := by
  intro B ae st r hB hr ρ env s A hA hE S
  obtain ⟨q, h1, hr⟩ := bind2 hr
  split at hr
  · rename_i hcl
    cases hr
    obtain ⟨xs, nm, m, rfl, hfl⟩ := hcl
    show wpAny _ A (comprehension (.ListComp elt (⟨target, iter, ifs, 0⟩ :: gs) scope pos) scope env _ (newList []) false (eval iter env) none) _ _ s
    refine comp_core ok hs hi ht hts hem hB h1 hA hE S fun ρ' s' C accv e S' hacc hC hlen => ?_
    dsimp only at hC S' hacc
    have hst : (st ++ [AO.list xs, AO.ns nm m])[st.length + 1]? = some (.ns nm m) := by rw [List.getElem?_append_right (by omega), Nat.add_sub_cancel_left]; rfl
    obtain ⟨mm, hmm⟩ := S'.nsAt hC hst
    refine ⟨mm, hmm, fun h' hs' => ?_⟩
    have hw := S.wf
    have htake : (st ++ [AO.list xs, AO.ns nm m]).take (st.length + 1) = st ++ [.list xs] := by
      rw [List.take_append, List.take_of_length_le (by omega), Nat.add_sub_cancel_left]; rfl
    rw [htake]
    obtain ⟨ρ2, g1, S2, g3⟩ := S'.trim (fun k => if k < st.length + 1 then k else k + 1) st.length (st ++ [AO.list xs]) (by simp) (fun k hk => if_pos (by omega)) (fun j ao2 hj => by
        by_cases hlt : j < st.length
        · right
          rw [List.getElem?_append_left hlt] at hj
          exact ⟨hlt, by rw [List.getElem?_append_left hlt]; exact hj, hw j ao2 hj⟩
        · have hj2 := (List.getElem?_eq_some_iff.mp hj).1
          simp only [List.length_append, List.length_cons, List.length_nil] at hj2
          have : j = st.length := by omega
          subst this
          left
          rw [List.getElem?_append_right (Nat.le_refl _), Nat.sub_self] at hj
          cases hj
          rw [if_pos (by omega), List.getElem?_append_right (Nat.le_refl _), Nat.sub_self, AO.ren_flat (v := .list xs) hfl]
          rfl) (fun i j hi hj e => by
        simp only [List.length_append, List.length_cons, List.length_nil] at hi hj
        rw [if_pos (by omega), if_pos (by omega)] at e
        exact e) (fun j hj => by
        simp only [List.length_append, List.length_cons, List.length_nil] at hj ⊢
        split <;> omega)
    have hρl := S'.len
    simp only [List.length_append, List.length_cons, List.length_nil] at hρl
    have hlen2 : (st ++ [AO.list xs]).length = st.length + 1 := by simp
    have hSl := S.len
    refine ⟨ρ2, ?_, S2.but (tk := s'.toks) ?_ (S'.slotApart hC hst) (fun t ht b r e => ((S'.tab t ht).off b r).1 (e ▸ List.mem_iff_getElem?.mpr ⟨_, hC⟩)) (fun b x hb e => (hs'.2 b hb).trans e), ?_⟩
    · rw [List.prefix_iff_getElem?]
      intro i hi
      rw [g1 i (by omega), if_pos (by omega)]
      exact pre_get e (List.getElem?_eq_getElem hi)
    · intro hm
      obtain ⟨j, hj⟩ := List.mem_iff_getElem?.mp hm
      have hlt := (List.getElem?_eq_some_iff.mp hj).1
      rw [S2.len, hlen2] at hlt
      rw [g1 j (by omega), if_pos hlt] at hj
      obtain ⟨p, p'⟩ := List.getElem?_eq_some_iff.mp hj
      obtain ⟨q, q'⟩ := List.getElem?_eq_some_iff.mp hC
      have := (List.getElem_inj S'.nd).mp (p'.trans q'.symm)
      omega
    · obtain ⟨b, hb, he⟩ := hacc
      exact ⟨b, by rw [g1 _ (by omega), if_pos (by omega)]; exact hb, he⟩
  split at hr
  · rename_i hns
    obtain ⟨st3, h2, hr⟩ := bind2 hr
    cases hr
    obtain ⟨nm, m, hst⟩ := isNs_get hns
    show wpAny _ A (comprehension (.ListComp elt (⟨target, iter, ifs, 0⟩ :: gs) scope pos) scope env _ (newList []) false (eval iter env) none) _ _ s
    refine comp_core ok hs hi ht hts hem hB h1 hA hE S fun ρ' s' C accv e S' hacc hC hlen => ?_
    obtain ⟨mm, hmm⟩ := S'.nsAt hC hst
    refine ⟨mm, hmm, fun h' hs' => ?_⟩
    obtain ⟨ρ2, b1, b2, b3⟩ := drop_ns S' hC hst h2 e (by omega) hs' hacc (by simp [AV.no])
    refine ⟨ρ2, b1, b2, ?_⟩
    have : AV.ren (down (q.1 + 1)) (.ref q.1) = .ref q.1 := by simp [AV.ren, down]
    rw [this] at b3; exact b3
  · cases hr
theorem sound_asgcomp {x : Str} {px spos : Pos} {elt target iter : Expr} {ifs : List Expr} {gs : List Comprehension} {scope : Scope} {pos : Pos} {src : Act It} {t tx : TAct} {ts : List (Act Bool)} {emit : Nat → AEnv → St → Option St}
    (hsw : ∀ env : Env, env.scope = Γ.scope → swapsWith (.ListComp elt (⟨target, iter, ifs, 0⟩ :: gs) scope pos) (some (.Name x px)) spos.line env = pure true) (htx : SoundG prog w G mg mb X Γ d (.Name x px) tx)
    (ok : CompOk Γ scope) (hs : ∀ (env : Env) x, foldedSetIterable iter env x = pure x) (hi : SoundI prog w G mg mb X Γ d iter src) (ht : SoundG prog w G mg mb X (compSc scope Γ) d target t) (hts : STs prog w G mg mb X (compSc scope Γ) d ifs ts)
    (hem : ∀ acc, SoundM' prog w G mg mb X (compSc scope Γ) d elt (⟨target, iter, ifs, 0⟩ :: gs) scope pos 0 acc (emit acc)) :
    SoundX prog w G mg mb X Γ d (.Assign [.Name x px] (.ListComp elt (⟨target, iter, ifs, 0⟩ :: gs) scope pos) spos) (xAsgComp (compRun src (localsOf scope) (selOf Γ scope) t ts emit) tx) := by
  intro B ae st r hB hr ρ env s A hA hE S
  obtain ⟨q, h1, hr⟩ := bind2 hr
  obtain ⟨st2, h2, hr⟩ := bind2 hr
  split at hr
  · rename_i hns
    obtain ⟨st3, h3, hr⟩ := bind2 hr
    cases hr
    obtain ⟨nm, m, hst⟩ := isNs_get hns
    rw [exec_Assign_Name_used _ _ _ _ (hsw env hE.scope)]
    refine wpAny_bind (wpAny_standAt (wpAny_bind ?_))
    show wpAny _ A (do let _ ← comprehension (.ListComp elt (⟨target, iter, ifs, 0⟩ :: gs) scope pos) scope env _ (newList []) false (eval iter env) (some (assign (.Name x px) env))) _ _ s
    refine wpAny_bind (wpAny_mono (comp_core (Q := fun _ s' => PostF B ρ (.next, st3) .next s') ok hs hi ht hts hem hB h1 hA hE S (use := some (assign (.Name x px) env)) fun ρ' s' C accv e S' hacc hC hlen => ?_) (fun _ s' hq => wpAny_pure (wpAny_pure hq)) fun _ _ e => e)
    refine wpAny_mono (htx B _ ae _ st2 hB h2 ρ' env s' A accv hA (hE.mono e) hacc S') (fun u s2 ⟨ρ2, e2, S2⟩ => ?_) fun _ _ e => e
    have hC2 := pre_get e2 hC
    obtain ⟨mm, hmm⟩ := S2.nsAt hC2 hst
    refine ⟨mm, hmm, fun h' hs' => ?_⟩
    obtain ⟨ρ3, b1, b2, b3⟩ := drop_ns S2 hC2 hst h3 (e.trans e2) (by omega) hs' (hacc.mono e2) (by simp [AV.no])
    exact ⟨ρ3, b1, b2, rfl⟩
  · cases hr
end
def AV.allr (P : Nat → Bool) : AV → Bool
  | .ref j => P j
  | _ => true
def optAllr (P : Nat → Bool) : Option AV → Bool
  | some v => v.allr P
  | .none => true
def AO.allr (P : Nat → Bool) : AO → Bool
  | .list xs => xs.all (AV.allr P)
  | .rlist xs => xs.all (AV.allr P)
  | .tup xs => xs.all (AV.allr P)
  | .ns _ m => m.all (optAllr P)
  | .cell v => optAllr P v
  | .fn _ _ _ _ cl _ => cl.all (fun p => P p.2)
  | .inst _ d => P d
  | .edict => true
  | .dview d => P d
  | .eset => true
  | .set1 _ => true
  | .any => true
section
variable {P : Nat → Bool} {f g : Nat → Nat}
theorem AV.back (h : ∀ j, P j = true → f (g j) = j) {v : AV} (hv : v.allr P = true) : (v.ren g).ren f = v := by
  cases v <;> first | rfl | exact congrArg AV.ref (h _ hv)
theorem map_back (h : ∀ j, P j = true → f (g j) = j) : ∀ {xs : List AV}, xs.all (AV.allr P) = true → (xs.map (AV.ren g)).map (AV.ren f) = xs
  | [], _ => rfl
  | x :: xs, hx => by
    rw [List.all_cons, Bool.and_eq_true] at hx
    simp only [List.map_cons, AV.back h hx.1, map_back h hx.2]
theorem opt_back (h : ∀ j, P j = true → f (g j) = j) : ∀ {m : List (Option AV)}, m.all (optAllr P) = true → (m.map fun p => p.map (AV.ren g)).map (fun p => p.map (AV.ren f)) = m
  | [], _ => rfl
  | .none :: m, hx => by
    rw [List.all_cons, Bool.and_eq_true] at hx
    simp only [List.map_cons, Option.map_none, opt_back h hx.2]
  | some v :: m, hx => by
    rw [List.all_cons, Bool.and_eq_true] at hx
    simp only [List.map_cons, Option.map_some, opt_back h hx.2, AV.back h hx.1]
theorem AO.back (h : ∀ j, P j = true → f (g j) = j) {ao : AO} (hx : ao.allr P = true) : (ao.ren g).ren f = ao := by
  cases ao with
  | list xs => exact congrArg AO.list (map_back h hx)
  | rlist xs => exact congrArg AO.rlist (map_back h hx)
  | tup xs => exact congrArg AO.tup (map_back h hx)
  | ns nm m => exact congrArg (AO.ns nm) (opt_back h hx)
  | cell v =>
    cases v with
    | none => rfl
    | some v => exact congrArg (fun x => AO.cell (some x)) (AV.back h hx)
  | fn p b s q cl c =>
    have h' : cl.all (fun p => P p.2) = true := hx
    have h1 : (cl.map fun p => (p.1, g p.2)).map (fun p => (p.1, f p.2)) = cl := by
      clear hx
      induction cl with
      | nil => rfl
      | cons p cl ih =>
        rw [List.all_cons, Bool.and_eq_true] at h'
        simp only [List.map_cons]
        rw [ih h'.2, h _ h'.1]
    exact congrArg (fun x => AO.fn p b s q x c) h1
  | inst C d => exact congrArg (AO.inst C) (h _ hx)
  | edict => rfl
  | dview d => exact congrArg AO.dview (h _ hx)
  | eset => rfl
  | set1 _ => rfl
  | any => rfl
end
def subGo (keep : List Nat) (st : St) : List Nat → Option St
  | [] => some []
  | i :: is => match st[i]? with
    | some ao => if ao.allr (fun j : Nat => keep.contains j) = true then (subGo keep st is).map fun r => ao.ren keep.idxOf :: r else .none
    | .none => .none
def sub (keep : List Nat) (st : St) : Option St := if keep.Nodup then subGo keep st keep else .none
theorem subGo_get {keep : List Nat} {st : St} : ∀ {is : List Nat} {st0 : St}, subGo keep st is = some st0 → st0.length = is.length ∧ ∀ (j i : Nat), is[j]? = some i → ∃ ao, st[i]? = some ao ∧ ao.allr (fun j : Nat => keep.contains j) = true ∧ st0[j]? = some (ao.ren keep.idxOf)
  | [], st0, h => by cases h; exact ⟨rfl, fun j i e => by simp at e⟩
  | i0 :: is, st0, h => by
    unfold subGo at h
    split at h
    · rename_i ao hst
      split at h
      · rename_i hin
        obtain ⟨r, h1, h2⟩ := Option.map_eq_some_iff.mp h
        subst h2
        have ih := subGo_get h1
        refine ⟨by simp [ih.1], fun j i e => ?_⟩
        cases j with
        | zero => simp at e; subst e; exact ⟨ao, hst, hin, rfl⟩
        | succ j => simpa using ih.2 j i (by simpa using e)
      · cases h
    · cases h
section
variable {B : Base} {ρ : List Addr} {st st0 : St} {s : Shared} {keep : List Nat}
theorem sub_nodup (h : sub keep st = some st0) : keep.Nodup ∧ subGo keep st keep = some st0 := by
  unfold sub at h
  split at h
  · rename_i hn; exact ⟨hn, h⟩
  · cases h
theorem idx_back {i : Nat} (hi : i ∈ keep) : keep[keep.idxOf i]? = some i := by
  have := List.idxOf_lt_length_of_mem hi
  rw [List.getElem?_eq_getElem this]
  exact congrArg some (List.getElem_idxOf this)
theorem SR.sub (S : SR B ρ st s) (h : Mine.sub keep st = some st0) :
    ∃ ρ0 : List Addr, (∀ (j i : Nat), keep[j]? = some i → ρ0[j]? = ρ[i]?) ∧ SR B ρ0 st0 s ∧ ∀ v v', v.allr (fun j : Nat => keep.contains j) = true → VR ρ v v' → VR ρ0 (v.ren keep.idxOf) v' := by
  obtain ⟨hnd, hgo⟩ := sub_nodup h
  obtain ⟨hlen, hget⟩ := subGo_get hgo
  have hf : ∀ i, keep.contains i = true → (fun j => (keep[j]?).getD (st.length + j)) (keep.idxOf i) = i := fun i hi => by
    simp only [idx_back (by simpa using hi), Option.getD_some]
  obtain ⟨ρ2, h1, h2, h3⟩ := S.retract (fun j => (keep[j]?).getD (st.length + j)) st0 (fun j ao2 e => by
    have hj := (List.getElem?_eq_some_iff.mp e).1
    rw [hlen] at hj
    obtain ⟨ao, a1, a2, a3⟩ := hget j _ (List.getElem?_eq_getElem hj)
    rw [a3] at e
    cases e
    simp only [List.getElem?_eq_getElem hj, Option.getD_some]
    rw [AO.back hf a2]
    exact a1) (fun i j hi hj e => by
      rw [hlen] at hi hj
      simp only [List.getElem?_eq_getElem hi, List.getElem?_eq_getElem hj, Option.getD_some] at e
      exact (List.getElem_inj hnd).mp e) (fun j hj => by
      rw [hlen] at hj
      simp only [List.getElem?_eq_none hj, Option.getD_none]
      omega)
  refine ⟨ρ2, fun j i e => ?_, h2, fun v v' hv hx => h3 _ _ (by rw [AV.back hf hv]; exact hx)⟩
  have hj := (List.getElem?_eq_some_iff.mp e).1
  rw [h1 j (by omega)]
  simp only [e, Option.getD_some]
def emb (keep : List Nat) (n j : Nat) : Nat := (keep[j]?).getD (n + (j - keep.length))
def embed (keep : List Nat) (st st1 : St) : St :=
  ((List.range st.length).map fun i => if keep.contains i = true then ((st1[keep.idxOf i]?).getD .any).ren (emb keep st.length) else (st[i]?).getD .any) ++ (st1.drop keep.length).map (AO.ren (emb keep st.length))
def pinsOf (h : Heap) (ρ : List Addr) (keep : List Nat) : List (Addr × Obj) :=
  (List.range ρ.length).filterMap fun i => if keep.contains i = true then .none else (ρ[i]?).bind fun a => (h.get? a).map fun o => (a, o)
theorem pins_mem {h : Heap} {a : Addr} {o : Obj} (hm : (a, o) ∈ pinsOf h ρ keep) : h.get? a = some o ∧ ∃ i, i ∉ keep ∧ ρ[i]? = some a := by
  obtain ⟨i, _, hi⟩ := List.mem_filterMap.mp hm
  split at hi
  · cases hi
  · rename_i hk
    obtain ⟨b, h1, h2⟩ := bind2 hi
    obtain ⟨ob, h3, h4⟩ := Option.map_eq_some_iff.mp h2
    cases h4
    exact ⟨h3, i, by simpa using hk, h1⟩
def Base.fr (B : Base) (ps : List (Addr × Obj)) : Base := { B with pins := ps ++ B.pins }
theorem fr_keep {ps : List (Addr × Obj)} {a : Addr} {o : Obj} : (B.fr ps).keep a o ↔ ((a, o) ∈ ps ∨ B.keep a o) := by
  unfold Base.fr Base.keep
  simp only [List.mem_append]
  constructor
  · rintro (h | h | h)
    · exact .inr (.inl h)
    · exact .inl h
    · exact .inr (.inr h)
  · rintro (h | h | h)
    · exact .inr (.inl h)
    · exact .inl h
    · exact .inr (.inr h)
theorem SR.frame (S : SR B ρ st s) (h : Mine.sub keep st = some st0) :
    ∃ ρ0 : List Addr, (∀ (j i : Nat), keep[j]? = some i → ρ0[j]? = ρ[i]?) ∧ SR (B.fr (pinsOf s.heap ρ keep)) ρ0 st0 s ∧ ∀ v v', v.allr (fun j : Nat => keep.contains j) = true → VR ρ v v' → VR ρ0 (v.ren keep.idxOf) v' := by
  obtain ⟨hnd, hgo⟩ := sub_nodup h
  obtain ⟨hlen, hget⟩ := subGo_get hgo
  obtain ⟨ρ0, h1, h2, h3⟩ := S.sub h
  refine ⟨ρ0, h1, ⟨fun a o hk => ?_, h2.len, h2.nd, fun k a ao ha hao hro o hk => ?_, h2.obj, h2.gens, h2.os, h2.eds, fun t ht => (h2.tab t ht).move (fun _ _ _ e => e) (fun b r => ⟨((h2.tab t ht).off b r).1, fun o hk => ?_⟩), fun k a ps body sc q cl P hb hao => (h2.fns k a ps body sc q cl P hb hao).move (fun _ e => e) (fun _ _ _ e => e) rfl⟩, h3⟩
  · rcases fr_keep.mp hk with hk | hk
    · exact (pins_mem hk).1
    · exact S.keep a o hk
  · rcases fr_keep.mp hk with hk | hk
    · obtain ⟨_, i, hi, hia⟩ := pins_mem hk
      have hj := (List.getElem?_eq_some_iff.mp hao).1
      rw [hlen] at hj
      rw [h1 k _ (List.getElem?_eq_getElem hj)] at ha
      obtain ⟨p, p'⟩ := List.getElem?_eq_some_iff.mp ha
      obtain ⟨q, q'⟩ := List.getElem?_eq_some_iff.mp hia
      have := (List.getElem_inj S.nd).mp (p'.trans q'.symm)
      exact hi (this ▸ List.getElem_mem hj)
    · exact h2.apart k a ao ha hao hro o hk
  · rcases fr_keep.mp hk with hk | hk
    · obtain ⟨_, i, hi, hia⟩ := pins_mem hk
      exact ((S.tab t ht).off b r).1 (List.mem_iff_getElem?.mpr ⟨i, hia⟩)
    · exact ((S.tab t ht).off b r).2 o hk
theorem GoodB.fr {G : List (Str × AV)} {mg mb : Str → Option Value} {X : Heap → List TabD → Prop} (h : GoodB G mg mb X B) (ps : List (Addr × Obj)) : GoodB G mg mb X (B.fr ps) := ⟨h.g, h.b, h.nolimit, h.nodigits, h.names, h.x⟩
end
theorem lookup_zip_some {α : Type} {names : List Str} {vs : List α} (hl : vs.length = names.length) {x : Str} (hx : x ∈ names) : ((names.zip vs).lookup x).isSome = true := by
  induction names generalizing vs with
  | nil => cases hx
  | cons n names ih =>
    cases vs with
    | nil => simp at hl
    | cons v vs =>
      rw [List.zip_cons_cons, List.lookup_cons]
      cases hn : x == n with
      | true => rfl
      | false =>
        rcases List.mem_cons.mp hx with rfl | hx
        · simp at hn
        · exact ih (by simpa using hl) hx
theorem filterMap_zip {α : Type} : ∀ {names : List Str} {vs : List α} (pre : List (Str × α)), (∀ x ∈ names, pre.lookup x = none) → vs.length = names.length → names.Nodup →
    names.filterMap (fun n => ((pre ++ names.zip vs).lookup n).map (n, ·)) = names.zip vs
  | [], _, _, _, _, _ => rfl
  | n :: names, [], _, _, hl, _ => by simp at hl
  | n :: names, v :: vs, pre, hp, hl, hn => by
    rw [List.nodup_cons] at hn
    have h1 : (pre ++ (n :: names).zip (v :: vs)).lookup n = some v := by
      rw [List.lookup_append, hp n (List.mem_cons_self ..)]
      simp [List.lookup_cons]
    rw [List.filterMap_cons, h1]
    simp only [Option.map_some, List.zip_cons_cons]
    congr 1
    have := filterMap_zip (vs := vs) (pre ++ [(n, v)]) (fun x hx => by
      rw [List.lookup_append, hp x (List.mem_cons_of_mem _ hx)]
      have : (x == n) = false := by
        have : ¬ x = n := fun e => hn.1 (e ▸ hx)
        simpa using this
      simp [List.lookup_cons, this]) (by simpa using hl) hn.2
    rw [List.append_assoc] at this
    exact this
theorem bind_plain {fd : FuncData} {names : List Str} {vs : List Value} (h1 : fd.params.posonlyargs = []) (h2 : fd.params.args.map (·.arg) = names) (h3 : fd.params.kwonlyargs = []) (h4 : fd.params.vararg = none) (h5 : fd.params.kwarg = none)
    (hd : fd.defaults = .none) (hl : vs.length = names.length) (nd : names.Nodup) : bindArgs fd ⟨vs, []⟩ = pure (names.zip vs) := by
  unfold bindArgs
  have hfm := filterMap_zip (names := names) (vs := vs) [] (fun _ _ => rfl) hl nd
  have hmiss : (names.filter fun n => ((names.zip vs).lookup n).isNone) = [] := by
    rw [List.filter_eq_nil_iff]
    intro x hx
    have := lookup_zip_some (vs := vs) hl hx
    cases h : (names.zip vs).lookup x with
    | none => rw [h] at this; cases this
    | some _ => simp
  have hseq : seqItems? Value.none = pure none := rfl
  simp only [h1, h2, h3, h4, h5, hd, hseq, List.map_nil, List.nil_append, List.append_nil, List.forIn_nil, pure_bind, hl, Option.isNone_none, Bool.and_true, Option.getD_none, List.length_nil, Nat.sub_zero, List.drop_zero, Nat.zero_sub, List.drop_nil]
  have e1 : decide (names.length > names.length) = false := by simp
  simp only [e1, Bool.false_eq_true, if_false, List.take_length, hmiss, List.isEmpty_nil, Bool.not_true, List.drop_length, List.zip_nil_left, List.zip_nil_right, List.forIn_nil, pure_bind]
  have e2 : ([] ++ names.zip vs) = names.zip vs := rfl
  rw [e2] at hfm
  exact congrArg (fun x => (pure x : Sem _)) hfm
def ownOf (scope : Scope) : List Str := (scope.names.filter fun p => p.2 == .cell).map (·.1)
def fnSc (scope : Scope) (cl : List Str) (qual : Str) (G : List (Str × AV)) : Sc := { scope := scope, nm := localsOf scope, cn := ownOf scope ++ cl, G := G, qual := qual }
def frameOf (scope : Scope) : St := .ns (localsOf scope) ((localsOf scope).map fun _ => .none) :: (ownOf scope).map fun _ => .cell .none
def envA (scope : Scope) (cl : List Nat) (code : Value) (n : Nat) : AEnv := ⟨n, (List.range (ownOf scope).length).map (fun i => n + 1 + i) ++ cl, code⟩
def gName (Γ : Sc) (x : Str) : TAct := if Γ.scope.names.lookup x = some .local then gLoc Γ.nm (Γ.nm.idxOf x) else gCell (Γ.cn.idxOf x)
def bindAll (Γ : Sc) : List (Str × AV) → AEnv → St → Option St
  | [], _, st => some st
  | (x, v) :: r, ae, st => (gName Γ x v ae st).bind fun st' => bindAll Γ r ae st'
def okName (Γ : Sc) (x : Str) : Bool := (Γ.scope.names.lookup x == some .local && Γ.nm.contains x) || (Γ.scope.names.lookup x == some .cell && Γ.cn.contains x)
section
variable {prog : Program} {w : World} {G : List (Str × AV)} {mg mb : Str → Option Value} {X : Heap → List TabD → Prop} {Γ : Sc} {d : Nat} {A : Around} {s : Shared} {B : Base} {ρ : List Addr} {st : St}
theorem sstore_name {x : Str} (h : okName Γ x = true) : SoundS prog w G mg mb X Γ d x (gName Γ x) := by
  unfold okName at h
  unfold gName
  rcases Bool.or_eq_true .. ▸ h with h | h
  · rw [Bool.and_eq_true] at h
    have h1 : Γ.scope.names.lookup x = some .local := by simpa using h.1
    rw [if_pos h1]
    exact sstore_loc h1 (by simpa using h.2)
  · rw [Bool.and_eq_true] at h
    have h1 : Γ.scope.names.lookup x = some .cell := by simpa using h.1
    rw [if_neg (by rw [h1]; decide)]
    exact sstore_cell h1 (by simpa using h.2)
theorem bind_all {E : Value → Shared → Prop} (f : Str × Value → PUnit → Sem (ForInStep PUnit)) {env : Env} (hf : ∀ n v u, f (n, v) u = (do storeName env n v; pure (.yield ⟨⟩))) {ae : AEnv} (hB : GoodB G mg mb X B) (hA : Room A d)
    (binds : List (Str × AV)) : ∀ {bv : List (Str × Value)} {ρ : List Addr} {st st' : St} {s : Shared}, binds.all (fun p => okName Γ p.1) = true → bindAll Γ binds ae st = some st' → ER Γ ρ ae env → KwR ρ binds bv → SR B ρ st s →
      ∀ {Q : PUnit → Shared → Prop}, (∀ ρ' s', ρ <+: ρ' → SR B ρ' st' s' → Q ⟨⟩ s') → wpAny (model prog w) A (forIn bv ⟨⟩ f) Q E s := by
  induction binds with
  | nil =>
    intro bv ρ st st' s hok h hE hk S Q hQ
    unfold KwR at hk
    cases hk
    cases h
    rw [List.forIn_nil]
    exact wpAny_pure (hQ ρ s (List.prefix_refl _) S)
  | cons p r ih =>
    intro bv ρ st st' s hok h hE hk S Q hQ
    obtain ⟨x, v⟩ := p
    unfold KwR at hk
    cases hk with
    | @cons _ q _ r' hv hr =>
      obtain ⟨y, v'⟩ := q
      rw [List.all_cons, Bool.and_eq_true] at hok
      obtain ⟨st1, h1, h2⟩ := bind2 h
      obtain ⟨e, hv⟩ := hv
      simp only at e
      subst e
      rw [List.forIn_cons, hf]
      refine wpAny_bind (wpAny_bind (wpAny_mono (sstore_name (prog := prog) (w := w) (G := G) (mg := mg) (mb := mb) (X := X) (d := d) hok.1 B v ae st st1 hB h1 ρ env s A v' hA hE hv S) (fun u s1 k1 => ?_) fun _ _ e => e.elim))
      obtain ⟨ρ1, e1, S1⟩ := k1
      refine wpAny_pure ?_
      exact ih hok.2 h2 (hE.mono e1) (KwR.mono e1 hr) S1 fun ρ2 s2 e2 S2 => hQ ρ2 s2 (e1.trans e2) S2
def cellAddrs : Nat → List (Str × NameKind) → List Addr
  | _, [] => []
  | n, (_, k) :: r => if k == .cell then n :: cellAddrs (n + 1) r else cellAddrs n r
theorem cells_laid : ∀ (names : List (Str × NameKind)) {ρ : List Addr} {st : St} {s : Shared}, SR B ρ st s →
    SR B (ρ ++ cellAddrs s.heap.objs.size names) (st ++ ((names.filter fun p => p.2 == .cell).map (·.1)).map fun _ => .cell .none) { s with heap := pushCells s.heap names }
  | [], ρ, st, s, S => by simpa [cellAddrs, pushCells] using S
  | (n, k) :: r, ρ, st, s, S => by
    unfold cellAddrs pushCells
    by_cases hk : (k == NameKind.cell) = true
    · rw [if_pos hk, if_pos hk]
      have S1 := S.push (tk := s.toks) (o := { cls := .type "cell", data := .cell none }) (ao := .cell .none) rfl ⟨_, rfl, trivial⟩
      have ih := cells_laid r S1
      rw [show ({ s with heap := s.heap.push { cls := .type "cell", data := .cell none } } : Shared).heap.objs.size = s.heap.objs.size + 1 from Heap.size_push ..] at ih
      rw [List.append_assoc, List.append_assoc] at ih
      simp only [List.filter_cons, hk, if_true, List.map_cons]
      exact ih
    · rw [if_neg hk, if_neg hk]
      simp only [List.filter_cons, hk, if_false]
      exact cells_laid r S
theorem cellAddrs_get : ∀ (names : List (Str × NameKind)) (n i : Nat), i < ((names.filter fun p => p.2 == .cell).map (·.1)).length → (cellAddrs n names)[i]? = some (n + i)
  | [], n, i, h => by simp at h
  | (x, k) :: r, n, i, h => by
    unfold cellAddrs
    by_cases hk : (k == NameKind.cell) = true
    · rw [if_pos hk]
      simp only [List.filter_cons, hk, if_true, List.map_cons, List.length_cons] at h
      cases i with
      | zero => rfl
      | succ i =>
        rw [List.getElem?_cons_succ, cellAddrs_get r (n + 1) i (by omega)]
        congr 1; omega
    · rw [if_neg hk]
      simp only [List.filter_cons, hk, if_false] at h
      exact cellAddrs_get r n i h
theorem cellsFrom_out : ∀ (names : List (Str × NameKind)) (n : Nat) (acc : List (Str × Addr)) (x : Str), x ∉ (names.filter fun p => p.2 == .cell).map (·.1) → (cellsFrom n names acc).lookup x = acc.lookup x
  | [], n, acc, x, _ => rfl
  | (y, k) :: r, n, acc, x, h => by
    unfold cellsFrom
    by_cases hk : (k == NameKind.cell) = true
    · rw [if_pos hk]
      simp only [List.filter_cons, hk, if_true, List.map_cons, List.mem_cons, not_or] at h
      rw [cellsFrom_out r _ _ x h.2, List.lookup_cons]
      have : (x == y) = false := by simpa using h.1
      rw [this]
    · rw [if_neg hk]
      simp only [List.filter_cons, hk, if_false] at h
      exact cellsFrom_out r n acc x h
theorem cellsFrom_in : ∀ (names : List (Str × NameKind)) (n : Nat) (acc : List (Str × Addr)) (x : Str), ((names.filter fun p => p.2 == .cell).map (·.1)).Nodup → x ∈ (names.filter fun p => p.2 == .cell).map (·.1) →
    (cellsFrom n names acc).lookup x = some (n + ((names.filter fun p => p.2 == .cell).map (·.1)).idxOf x)
  | [], n, acc, x, _, h => by simp at h
  | (y, k) :: r, n, acc, x, hn, h => by
    unfold cellsFrom
    by_cases hk : (k == NameKind.cell) = true
    · rw [if_pos hk]
      simp only [List.filter_cons, hk, if_true, List.map_cons, List.nodup_cons] at hn h ⊢
      by_cases e : x = y
      · subst e
        rw [cellsFrom_out r _ _ x hn.1, List.lookup_cons]
        simp
      · have hx := (List.mem_cons.mp h).resolve_left e
        rw [cellsFrom_in r (n + 1) _ x hn.2 hx, List.idxOf_cons]
        have : (y == x) = false := by simpa using Ne.symm e
        rw [this]
        congr 1
        simp; omega
    · rw [if_neg hk]
      simp only [List.filter_cons, hk, if_false] at hn h ⊢
      exact cellsFrom_in r n acc x hn h
theorem cl_look {x : Str} {k : Nat} : ∀ {cl : List (Str × Nat)} {cs : List (Str × Addr)}, All2 (fun p q => p.1 = q.1 ∧ ρ[p.2]? = some q.2) cl cs → x ∈ cl.map (·.1) → (cl.map (·.2))[(cl.map (·.1)).idxOf x]? = some k →
    ∃ c, ρ[k]? = some c ∧ cs.lookup x = some c
  | _, _, .nil, h, _ => by simp at h
  | (y, j) :: cl, (y', c) :: cs, .cons h r, hx, hk => by
    obtain ⟨e, hj⟩ := h
    simp only at e hj
    subst e
    simp only [List.map_cons, List.idxOf_cons] at hk hx
    by_cases e : x = y
    · subst e
      simp at hk
      subst hk
      exact ⟨c, hj, by simp [List.lookup_cons]⟩
    · have h1 : (y == x) = false := by simpa using Ne.symm e
      have h2 : (x == y) = false := by simpa using e
      rw [h1] at hk
      simp at hk
      rw [List.lookup_cons, h2]
      exact cl_look r ((List.mem_cons.mp hx).resolve_left e) (by simpa using hk)
structure FnOk (scope : Scope) (cl : List Str) : Prop where
  kind : scope.kind = .function
  co : scope.isCoroutine = false
  gen : scope.isGenerator = false
  nd : (ownOf scope).Nodup
  out : ∀ x ∈ cl, x ∉ ownOf scope
theorem enter_ok {scope : Scope} {cl : List (Str × Nat)} {cs : List (Str × Addr)} {binds : List (Str × AV)} {bv : List (Str × Value)} {qual : Str} {func : Option Addr} {code cv : Value} {st' : St}
    (ok : FnOk scope (cl.map (·.1))) (hB : GoodB G mg mb X B) (hA : Room A d) (hC : ClR ρ cl cs) (hbn : binds.all (fun p => okName (fnSc scope (cl.map (·.1)) qual G) p.1) = true)
    (hb : bindAll (fnSc scope (cl.map (·.1)) qual G) binds (envA scope (cl.map (·.2)) code st.length) (st ++ frameOf scope) = some st') (hcv : code = .none ∨ cv = code) (hK : KwR ρ binds bv) (S : SR B ρ st s) :
    wpAny (model prog w) A (newFunctionEnv scope mainGlobals cs bv qual func cv none builtinsNs) (fun env s' => ∃ ρ', ρ <+: ρ' ∧ SR B ρ' st' s' ∧ ER (fnSc scope (cl.map (·.1)) qual G) ρ' (envA scope (cl.map (·.2)) code st.length) env) NoE s := by
  have len := S.len
  simp only [newFunctionEnv, Option.isSome_none, Bool.false_eq_true, if_false]
  refine wpAny_bind (wpAny_alloc ?_)
  refine wpAny_bind (wpAny_layCells _ (fun name kind cells => by cases hkc : kind == NameKind.cell <;> simp [hkc]) _ _ _ _ ?_)
  rw [show ({ s with heap := s.heap.push { cls := .type "frame", data := .dict #[] } } : Shared).heap.objs.size = s.heap.objs.size + 1 from Heap.size_push ..]
  obtain ⟨on, hon, hor⟩ := ns_to (nm := localsOf scope) (m := (localsOf scope).map fun _ => .none) (ρ := ρ ++ [s.heap.objs.size]) (Heap.Ns.new s.heap (.type "frame")) (by simp) (all2_none _ fun x => rfl)
  have S1 := S.alloc (h' := s.heap.push { cls := .type "frame", data := .dict #[] }) (tk := s.toks) (fun _ _ e => Heap.get?_push_of_some _ e) (size_none _) hon hor
  have S2 := cells_laid scope.names S1
  rw [show ({ s with heap := s.heap.push { cls := .type "frame", data := .dict #[] }, toks := s.toks } : Shared).heap.objs.size = s.heap.objs.size + 1 from Heap.size_push ..] at S2
  rw [show st ++ [AO.ns (localsOf scope) ((localsOf scope).map fun _ => .none)] ++ ((scope.names.filter fun p => p.2 == .cell).map (·.1)).map (fun _ => AO.cell .none) = st ++ frameOf scope by rw [List.append_assoc]; rfl] at S2
  have pre : ρ <+: ρ ++ [s.heap.objs.size] ++ cellAddrs (s.heap.objs.size + 1) scope.names := (List.prefix_append _ _).trans (List.prefix_append _ _)
  have E2 : ER (fnSc scope (cl.map (·.1)) qual G) (ρ ++ [s.heap.objs.size] ++ cellAddrs (s.heap.objs.size + 1) scope.names) (envA scope (cl.map (·.2)) code st.length)
      { scope := scope, locals := s.heap.objs.size, globals := mainGlobals, cells := cellsFrom (s.heap.objs.size + 1) scope.names cs, qual := qual, func := func, code := cv, frame := some s.heap.objs.size, builtins := builtinsNs } := by
    refine ⟨rfl, ok.kind, ?_, fun x k hx hk => ?_, rfl, rfl, rfl, hcv⟩
    · show (ρ ++ [s.heap.objs.size] ++ cellAddrs (s.heap.objs.size + 1) scope.names)[st.length]? = _
      rw [List.append_assoc, List.getElem?_append_right (by omega), len]
      simp
    · have hx' : x ∈ ownOf scope ++ cl.map (·.1) := hx
      have hk' : ((List.range (ownOf scope).length).map (fun i => st.length + 1 + i) ++ cl.map (·.2))[(ownOf scope ++ cl.map (·.1)).idxOf x]? = some k := hk
      by_cases hin : x ∈ ownOf scope
      · have hlt := List.idxOf_lt_length_of_mem hin
        rw [List.idxOf_append, if_pos hin, List.getElem?_append_left (by simpa using hlt), List.getElem?_map, List.getElem?_range hlt] at hk'
        have hk2 : k = st.length + 1 + (ownOf scope).idxOf x := (Option.some.inj hk').symm
        subst hk2
        refine ⟨s.heap.objs.size + 1 + (ownOf scope).idxOf x, ?_, cellsFrom_in _ _ _ x ok.nd hin⟩
        rw [List.append_assoc, List.getElem?_append_right (by omega), List.getElem?_append_right (by simp; omega)]
        rw [show st.length + 1 + (ownOf scope).idxOf x - ρ.length - [s.heap.objs.size].length = (ownOf scope).idxOf x by simp; omega]
        exact cellAddrs_get _ _ _ hlt
      · have hcl := (List.mem_append.mp hx').resolve_left hin
        rw [List.idxOf_append, if_neg hin, List.getElem?_append_right (by simp)] at hk'
        obtain ⟨c, h1, h2⟩ := cl_look hC hcl (k := k) (by simpa using hk')
        exact ⟨c, pre_get pre h1, (cellsFrom_out _ _ _ x hin).trans h2⟩
  refine wpAny_bind (bind_all _ (fun _ _ _ => rfl) hB hA binds hbn hb E2 (KwR.mono pre hK) S2 fun ρ3 s3 e3 S3 => wpAny_pure ?_)
  exact ⟨ρ3, pre.trans e3, S3, E2.mono e3⟩
def retOf : AFlow → AV
  | .ret v => v
  | _ => .none
theorem code_fn {a : Addr} {o : Obj} {fd : FuncData} {body : List Stmt} {scope : Scope} {qual : Str} {cl : List (Str × Nat)} {cs : List (Str × Addr)} {binds : List (Str × AV)} {kvs : List (Str × Value)} {st0 : St} {vs : List Value} {code : Value} {act : Act AFlow} {r : AFlow × St} {st1 : St}
    (ho : s.heap.get? a = some o) (hd : o.data = .func fd) (hbody : fd.body = .stmts body) (hscope : fd.scope = scope) (hq : fd.qualname = qual) (hg : fd.globals = mainGlobals) (hbl : fd.builtins = builtinsNs) (hcl : fd.closure = cs)
    (hcode : s.heap.CodeRec fd.code qual) (hcv : code = .none ∨ fd.code = code) (ok : FnOk scope (cl.map (·.1))) (hbind : ∀ A', wpAny (model prog w) A' (bindArgs fd ⟨vs, kvs⟩) (fun bv s' => ∃ ρ', ρ <+: ρ' ∧ SR B ρ' st0 s' ∧ KwR ρ' binds bv) NoE s) (hB : GoodB G mg mb X B) (hC : ClR ρ cl cs)
    (hbn : binds.all (fun p => okName (fnSc scope (cl.map (·.1)) (qual ++ ".<locals>.") G) p.1) = true) (hbd : SoundXs prog w G mg mb X (fnSc scope (cl.map (·.1)) (qual ++ ".<locals>.") G) d body act)
    (h1 : bindAll (fnSc scope (cl.map (·.1)) (qual ++ ".<locals>.") G) binds (envA scope (cl.map (·.2)) code st0.length) (st0 ++ frameOf scope) = some st1) (h2 : act (envA scope (cl.map (·.2)) code st0.length) st1 = some r)
    (hA : Room A (d + 1)) :
    codeAny (model prog w) A (.call (.ref a) ⟨vs, kvs⟩) (fun x s' => match x with | .ok (.ret v) => ∃ ρ', ρ <+: ρ' ∧ SR B ρ' r.2 s' ∧ VR ρ' (retOf r.1) v | .ok _ => False | .error _ => False) s := by
  subst hscope hq hcl
  refine codeAny_call_function (by have := hA.depth; show A.depth < 1000; omega) ho hd ok.co ok.gen hbody hcode ?_
  rw [hg, hbl]
  refine wpAny_mono (hbind _) (fun bv s0 k0 => ?_) fun _ _ e => e.elim
  obtain ⟨ρ0, e0, S0, K0⟩ := k0
  refine wpAny_mono (enter_ok ok hB hA.in1 (hC.mono e0) hbn h1 hcv K0 S0) (fun env s1 k1 => ?_) fun _ _ e => e.elim
  obtain ⟨ρ1, e1, S1, E1⟩ := k1
  refine ⟨hB.nolimit.keeps S1.g, codeAny_func (wpAny_mono (hbd B _ st1 r hB h2 ρ1 env s1 _ hA.deeper E1 S1) (fun f s2 k2 => ?_) fun _ _ e => e.elim)⟩
  obtain ⟨rf, rs⟩ := r
  obtain ⟨ρ2, e2, S2, hf⟩ := k2
  refine ⟨ρ2, e0.trans (e1.trans e2), S2, ?_⟩
  cases rf with
  | next => cases hf; rfl
  | brk => cases hf; rfl
  | cont => cases hf; rfl
  | ret v => obtain ⟨v', rfl, hv⟩ := hf; exact hv
end
section
variable {prog : Program} {w : World} {A : Around} {E : Value → Shared → Prop} {s : Shared}
theorem bind_given {fd : FuncData} {names : List Str} {vs : List Value} {T : Addr} {o : Obj} {items : Array Value} {n : Nat} {Q : List (Str × Value) → Shared → Prop} (h1 : fd.params.posonlyargs = []) (h2 : fd.params.args.map (·.arg) = names) (h3 : fd.params.kwonlyargs = []) (h4 : fd.params.vararg = none) (h5 : fd.params.kwarg = none)
    (hd : fd.defaults = .ref T) (ho : s.heap.get? T = some o) (hdat : o.data = .seq items n) (hl : vs.length = names.length) (nd : names.Nodup) (hQ : Q (names.zip vs) s) : wpAny (model prog w) A (bindArgs fd ⟨vs, []⟩) Q E s := by
  unfold bindArgs
  have hfm := filterMap_zip (names := names) (vs := vs) [] (fun _ _ => rfl) hl nd
  have hmiss : ∀ k, ((names.take k).filter fun n => ((names.zip vs).lookup n).isNone) = [] := fun k => by
    rw [List.filter_eq_nil_iff]
    intro x hx
    have := lookup_zip_some (vs := vs) hl (List.mem_of_mem_take hx)
    cases h : (names.zip vs).lookup x with
    | none => rw [h] at this; cases this
    | some _ => simp
  simp only [h1, h2, h3, h4, h5, hd, List.map_nil, List.nil_append, List.append_nil, List.forIn_nil, pure_bind, hl, Option.isNone_none, Bool.and_true]
  refine wpAny_bind (wpAny_seqItems ho hdat ?_)
  have e1 : decide (names.length > names.length) = false := by simp
  simp only [Option.getD_some, e1, Bool.false_eq_true, if_false, hmiss, List.isEmpty_nil, Bool.not_true]
  have loop : ∀ (l : List (Str × Value)), (∀ p ∈ l, p.1 ∈ names) → (forIn l (names.zip vs) fun (x : Str × Value) (r : List (Str × Value)) => if (List.lookup x.1 r).isNone = true then pure (ForInStep.yield (r ++ [(x.1, x.2)])) else pure (ForInStep.yield r) : Sem (List (Str × Value))) = pure (names.zip vs) := by
    intro l hl'
    induction l with
    | nil => rfl
    | cons p l ih =>
      rw [List.forIn_cons]
      have h := lookup_zip_some (vs := vs) hl (hl' p (List.mem_cons_self ..))
      have h' : (List.lookup p.1 (names.zip vs)).isNone = false := by
        cases e : List.lookup p.1 (names.zip vs) with
        | none => rw [e] at h; cases h
        | some _ => rfl
      rw [h', if_neg (by decide), pure_bind]
      exact ih fun q hq => hl' q (List.mem_cons_of_mem _ hq)
  rw [loop _ fun p hp => List.mem_of_mem_drop (List.of_mem_zip hp).1, pure_bind]
  have e2 : ([] ++ names.zip vs) = names.zip vs := rfl
  rw [e2] at hfm
  rw [hfm]
  exact wpAny_pure hQ
theorem lookup_zip_no {α : Type} : ∀ {names : List Str} {vs : List α} {x : Str}, x ∉ names → (names.zip vs).lookup x = none
  | [], _, _, _ => rfl
  | n :: names, [], _, _ => rfl
  | n :: names, v :: vs, x, h => by
    rw [List.zip_cons_cons, List.lookup_cons]
    have : (x == n) = false := by
      have : ¬ x = n := fun e => h (e ▸ List.mem_cons_self ..)
      simpa using this
    rw [this]
    exact lookup_zip_no fun hx => h (List.mem_cons_of_mem _ hx)
theorem bind_def {fd : FuncData} {ns : List Str} {x : Str} {dv : Value} {vs : List Value} {T : Addr} {o : Obj} {n : Nat} {Q : List (Str × Value) → Shared → Prop} (h1 : fd.params.posonlyargs = []) (h2 : fd.params.args.map (·.arg) = ns ++ [x]) (h3 : fd.params.kwonlyargs = []) (h4 : fd.params.vararg = none) (h5 : fd.params.kwarg = none)
    (hd : fd.defaults = .ref T) (ho : s.heap.get? T = some o) (hdat : o.data = .seq #[dv] n) (hl : vs.length = ns.length) (nd : (ns ++ [x]).Nodup) (hQ : Q ((ns ++ [x]).zip (vs ++ [dv])) s) : wpAny (model prog w) A (bindArgs fd ⟨vs, []⟩) Q E s := by
  unfold bindArgs
  have hz : (ns ++ [x]).zip vs = ns.zip vs := by
    clear hQ hdat ho hd h2 nd
    induction ns generalizing vs with
    | nil => cases vs with
      | nil => rfl
      | cons v vs => simp at hl
    | cons y ns ih => cases vs with
      | nil => simp at hl
      | cons v vs => rw [List.cons_append, List.zip_cons_cons, List.zip_cons_cons, ih (by simpa using hl)]
  have hz2 : (ns ++ [x]).zip (vs ++ [dv]) = ns.zip vs ++ [(x, dv)] := by
    rw [List.zip_append hl.symm]; rfl
  have hfm := filterMap_zip (names := ns ++ [x]) (vs := vs ++ [dv]) [] (fun _ _ => rfl) (by simp [hl]) nd
  have hx : x ∉ ns := by
    rw [List.nodup_append] at nd
    exact fun h => nd.2.2 x h x (by simp) rfl
  have hmiss : ((ns.filter fun n => ((ns.zip vs).lookup n).isNone)) = [] := by
    rw [List.filter_eq_nil_iff]
    intro y hy
    have := lookup_zip_some (vs := vs) hl hy
    cases h : (ns.zip vs).lookup y with
    | none => rw [h] at this; cases this
    | some _ => simp
  simp only [h1, h2, h3, h4, h5, hd, List.map_nil, List.nil_append, List.append_nil, List.forIn_nil, pure_bind, hl, Option.isNone_none, Bool.and_true, hz, List.length_append, List.length_cons, List.length_nil]
  refine wpAny_bind (wpAny_seqItems ho hdat ?_)
  have e1 : decide (ns.length > ns.length + (0 + 1)) = false := by simp
  have e3 : (ns ++ [x]).take (ns.length + (0 + 1) - 1) = ns := by simp
  have e4 : (ns ++ [x]).drop (ns.length + (0 + 1) - 1) = [x] := by simp
  have e5 : [dv].drop (1 - (ns.length + (0 + 1))) = [dv] := by
    rw [show 1 - (ns.length + (0 + 1)) = 0 by omega]; rfl
  simp only [Nat.zero_add] at e1 e3 e4 e5
  simp only [Option.getD_some, e1, Bool.false_eq_true, if_false, List.length_cons, List.length_nil, Nat.zero_add, e5, e3, e4, hmiss, List.isEmpty_nil, Bool.not_true, List.zip_cons_cons, List.zip_nil_left]
  rw [List.forIn_cons]
  simp only [lookup_zip_no hx, Option.isNone_none, if_true, List.forIn_nil, pure_bind]
  rw [hz2] at hfm hQ
  rw [List.nil_append] at hfm
  rw [hfm]
  exact wpAny_pure hQ
theorem lookup_app_some {names : List Str} {vs : List Value} (hl : vs.length = names.length) {x : Str} (hx : x ∈ names) (r : List (Str × Value)) : ((names.zip vs ++ r).lookup x).isSome = true := by
  rw [List.lookup_append]
  have := lookup_zip_some (vs := vs) hl hx
  cases h : (names.zip vs).lookup x with
  | none => rw [h] at this; cases this
  | some _ => simp
theorem lookup_zip_none {names : List Str} {x : Str} (hx : x ∉ names) : ∀ {vs : List Value}, (names.zip vs).lookup x = none := by
  induction names with
  | nil => intro vs; rfl
  | cons n names ih =>
    intro vs
    cases vs with
    | nil => rfl
    | cons v vs =>
      rw [List.zip_cons_cons, List.lookup_cons]
      have : (x == n) = false := by
        have : ¬ x = n := fun e => hx (e ▸ List.mem_cons_self ..)
        simpa using this
      rw [this]
      exact ih fun h => hx (List.mem_cons_of_mem _ h)
theorem fm_congr {α β : Type} {f g : α → Option β} : ∀ {l : List α}, (∀ x ∈ l, f x = g x) → l.filterMap f = l.filterMap g
  | [], _ => rfl
  | x :: l, h => by rw [List.filterMap_cons, List.filterMap_cons, h x (List.mem_cons_self ..), fm_congr fun y hy => h y (List.mem_cons_of_mem _ hy)]
theorem bind_kw1 {fd : FuncData} {names : List Str} {k : Str} {c : Value} {vs : List Value} (h1 : fd.params.posonlyargs = []) (h2 : fd.params.args.map (·.arg) = names) (h3 : fd.params.kwonlyargs.map (·.arg) = [k]) (h4 : fd.params.vararg = none) (h5 : fd.params.kwarg = none)
    (hd : fd.defaults = .none) (hl : vs.length = names.length) (nd : names.Nodup) (hk : k ∉ names) : bindArgs fd ⟨vs, [(k, c)]⟩ = pure (names.zip vs ++ [(k, c)]) := by
  unfold bindArgs
  have hmiss : (names.filter fun n => ((names.zip vs ++ [(k, c)]).lookup n).isNone) = [] := by
    rw [List.filter_eq_nil_iff]
    intro x hx
    have := lookup_app_some hl hx [(k, c)]
    cases h : (names.zip vs ++ [(k, c)]).lookup x with
    | none => rw [h] at this; cases this
    | some _ => simp
  have hseq : seqItems? Value.none = pure none := rfl
  have hkn : ((names.zip vs).lookup k).isSome = false := by rw [lookup_zip_none hk]; rfl
  have hkl : ((names.zip vs ++ [(k, c)]).lookup k).isNone = false := by
    rw [List.lookup_append, lookup_zip_none hk]
    simp
  have hfm : (names ++ [k]).filterMap (fun n => ((names.zip vs ++ [(k, c)]).lookup n).map (n, ·)) = names.zip vs ++ [(k, c)] := by
    rw [List.filterMap_append]
    congr 1
    · have := filterMap_zip (names := names) (vs := vs) [] (fun _ _ => rfl) hl nd
      refine (fm_congr fun x hx => ?_).trans this
      have e := lookup_zip_some (vs := vs) hl hx
      rw [List.lookup_append]
      simp only [List.nil_append]
      cases h : (names.zip vs).lookup x with
      | none => rw [h] at e; cases e
      | some _ => rfl
    · rw [List.filterMap_cons, List.lookup_append, lookup_zip_none hk]
      simp
  simp only [h1, h2, h3, h4, h5, hd, hseq, List.map_nil, List.nil_append, List.forIn_nil, List.forIn_cons, pure_bind, hl, Option.isNone_none, Bool.and_true, Option.getD_none, List.length_nil, Nat.sub_zero, Nat.zero_sub, List.drop_nil, hkn]
  have hc : (names.contains k || [k].contains k) = true := by simp
  have e1 : decide (names.length > names.length) = false := by simp
  simp only [hc, if_true, Bool.false_eq_true, if_false, pure_bind, e1, List.take_length, hmiss, List.isEmpty_nil, Bool.not_true, List.drop_length, List.zip_nil_left, List.zip_nil_right, List.forIn_nil, hkl]
  exact congrArg (fun x => (pure x : Sem _)) hfm
theorem bind_star {fd : FuncData} {names : List Str} {ka : Arg} {vs : List Value} {Q : List (Str × Value) → Shared → Prop} (h1 : fd.params.posonlyargs = []) (h2 : fd.params.args.map (·.arg) = names) (h3 : fd.params.kwonlyargs = []) (h4 : fd.params.vararg = none) (h5 : fd.params.kwarg = some ka)
    (hd : fd.defaults = .none) (hl : vs.length = names.length) (nd : names.Nodup) (hQ : Q (names.zip vs ++ [(ka.arg, .ref s.heap.objs.size)]) { s with heap := s.heap.push { cls := .type "dict", data := .dict #[] } }) : wpAny (model prog w) A (bindArgs fd ⟨vs, []⟩) Q E s := by
  unfold bindArgs
  have hfm := filterMap_zip (names := names) (vs := vs) [] (fun _ _ => rfl) hl nd
  have hmiss : (names.filter fun n => ((names.zip vs).lookup n).isNone) = [] := by
    rw [List.filter_eq_nil_iff]
    intro x hx
    have := lookup_zip_some (vs := vs) hl hx
    cases h : (names.zip vs).lookup x with
    | none => rw [h] at this; cases this
    | some _ => simp
  have hseq : seqItems? Value.none = pure none := rfl
  simp only [h1, h2, h3, h4, h5, hd, hseq, List.map_nil, List.nil_append, List.append_nil, List.forIn_nil, pure_bind, hl, Option.isNone_none, Bool.and_true, Option.getD_none, List.length_nil, Nat.sub_zero, Nat.zero_sub, List.drop_nil]
  have e1 : decide (names.length > names.length) = false := by simp
  have e3 : ¬ (0 > sizeLine + 1) := by omega
  simp only [e1, Bool.false_eq_true, if_false, List.take_length, hmiss, List.isEmpty_nil, Bool.not_true, List.drop_length, List.zip_nil_right, List.forIn_nil, pure_bind, e3]
  have e2 : ([] ++ names.zip vs) = names.zip vs := rfl
  rw [e2] at hfm
  rw [hfm]
  exact wpAny_bind (wpAny_alloc (wpAny_pure hQ))
end
def CodeAt (h : Heap) (c P : Addr) : Prop := ∃ o vs file tf flags tg inF text tt, h.get? c = some o ∧ o.cls = .type "code" ∧ o.data = .fields vs ∧ vs.getD 11 .none = .ref P ∧ vs[11]? = some (.ref P) ∧ vs.getD 18 .none = .str file tf ∧
  vs.getD 7 .none = .int flags tg ∧ vs.getD 9 .none = .bool inF ∧ vs.getD 10 .none = .int text tt ∧ c ≠ P
def Bmod (h : Heap) (mg : Str → Option Value) : Prop := ∃ bm o, mg "__builtins__" = some (.ref bm) ∧ bm ≠ builtinsNs ∧ h.get? bm = some o ∧ o.cls = .type "module" ∧ o.dict = some builtinsNs ∧ o.data = .plain
def isCode (v : Value) (c : Addr) : Bool := match v with
  | .ref c' => c' == c
  | _ => false
def xDef (c P : Addr) (args : Arguments) (body : List Stmt) (scope : Scope) (qual : Str) (sel : List Nat) (t : TAct) : Act AFlow := fun ae st =>
  if isCode ae.code c = true then (pick ae.cells sel).bind fun cs =>
    (t (.ref st.length) ae (st ++ [.fn args body scope qual ((freeOf scope).zip cs).reverse P])).bind fun st2 => some (.next, st2)
  else .none
theorem clOf_eq (f : Str → Addr) : ∀ (names : List (Str × NameKind)) (acc : List (Str × Addr)), clOf names f acc = (((names.filter fun p => p.2 == .free).map (·.1)).map fun n => (n, f n)).reverse ++ acc
  | [], acc => rfl
  | (n, k) :: r, acc => by
    unfold clOf
    rw [List.foldl_cons]
    have := clOf_eq f r
    unfold clOf at this
    rw [this]
    by_cases hk : (k == NameKind.free) = true
    · simp only [List.filter_cons, hk, if_true, List.map_cons, List.reverse_cons, List.append_assoc, List.singleton_append]
    · simp only [List.filter_cons, hk, if_false]
      simp
section
variable {prog : Program} {w : World} {G : List (Str × AV)} {mg mb : Str → Option Value} {X : Heap → List TabD → Prop} {Γ : Sc} {d : Nat} {A : Around} {s : Shared} {B : Base} {ρ : List Addr} {st : St}
theorem isCode_ok {v : Value} {c : Addr} (h : isCode v c = true) : v = .ref c := by
  unfold isCode at h
  split at h
  · rename_i c'; rw [show c' = c by simpa using h]
  · cases h
theorem code_ok {c : Addr} {t : TabD} {pos : Pos} {name : Str} {p : Arguments} {scope : Scope} {body : FuncBody} {fl : Nat} {env : Env} (hc : env.code = .ref c) (hX : CodeAt B.g c t.P) (ht : t ∈ B.tabs) (hnd : ∀ t' ∈ B.tabs, t'.P = t.P → t' = t) (hl : t.line = pos.line) (hcol : t.col = pos.col) (S : SR B ρ st s) :
    wpAny (model prog w) A (functionCode env pos fl name t.q p scope body) (fun v s' => ∃ c', SR B ρ st s' ∧ v = .ref c' ∧ s'.heap.get? t.P = some (tabObj #[rawInt t.line, rawInt t.col, .ref c'])) NoE s := by
  obtain ⟨o, vs, file, tf, flags, tg, inF, text, tt, ho, hcls, hd, h11, h11', h2, h7, h9, h10, hne⟩ := hX
  have ho' := S.g c o ho
  have T := S.tab t ht
  have hoff := T.off _ (.inl rfl)
  rcases T.st with e | ⟨c', e, hrec⟩
  · refine wpAny_functionCodeX hc ⟨o, vs, file, tf, flags, tg, inF, text, tt, _, ho', hd, h11, h2, h7, h9, h10, e, rfl, trivial, hne⟩ ⟨⟨o, vs, ho', hcls, hd, h11'⟩, e⟩ rfl fun c' h' tk hx hge hlt' _ hrec htab _ => ?_
    have hP' : h'.get? t.P = some (tabObj #[rawInt t.line, rawInt t.col, .ref c']) := by rw [hl, hcol]; exact htab.2
    have hout : c' ∉ ρ := fun hm => absurd (S.lt hm) (Nat.not_lt.mpr hge)
    have hap : ∀ ob, ¬ B.keep c' ob := fun ob hk => absurd (Heap.lt_size (S.keep c' ob hk)) (Nat.not_lt.mpr hge)
    have keepB : ∀ b ob, b ≠ t.P → s.heap.get? b = some ob → h'.get? b = some ob := fun b ob hb e => hx b ob hb e
    refine ⟨c', ⟨fun b ob hk => keepB b ob (fun q => hoff.2 ob (q ▸ hk)) (S.keep b ob hk), S.len, S.nd, S.apart, fun k b ao hb hao => ?_, S.gens, S.os, S.eds, fun t' ht' => ?_, fun k b ps bd sc q cl P hb hao => ?_⟩, rfl, hP'⟩
    · obtain ⟨ob, e1, e2⟩ := S.obj k b ao hb hao
      exact ⟨ob, keepB b ob (fun q => hoff.1 (q ▸ List.mem_iff_getElem?.mpr ⟨k, hb⟩)) e1, e2⟩
    · by_cases hq : t'.P = t.P
      · obtain rfl := hnd t' ht' hq
        refine ⟨fun b r => ?_, .inr ⟨c', hP', hrec⟩⟩
        rcases r with rfl | r
        · exact hoff
        · rw [hP'] at r
          have : c' = b := by
            have := congrArg (fun o : Option Obj => match o with | some ⟨_, _, .fields vs, _⟩ => vs[2]? | _ => none) r
            simpa using this
          subst this
          exact ⟨hout, hap⟩
      · refine (S.tab t' ht').move (fun b ob r eb => keepB b ob (fun q => ?_) eb) (S.tab t' ht').off
        subst q
        rcases r with r | r
        · exact hq r.symm
        · rcases (S.tab t' ht').st with e3 | ⟨c3, e3, ⟨c4, oc, vc, tc, q1, q2, q3, q4⟩⟩
          · rw [e3] at r
            have := congrArg (fun o : Option Obj => match o with | some ⟨_, _, .fields vs, _⟩ => vs.size | _ => 0) r
            simp at this
          · cases q1
            rw [e3] at r
            have : c3 = t.P := by
              have := congrArg (fun o : Option Obj => match o with | some ⟨_, _, .fields vs, _⟩ => vs[2]? | _ => none) r
              simpa using this
            rw [this, e] at q2
            cases q2
            cases q3
            simp at q4
    · obtain ⟨ob, fd, cc, t', e1, e2, e3, e4, e5, e6, e7⟩ := S.fns k b ps bd sc q cl P hb hao
      refine ⟨ob, fd, cc, t', keepB b ob (fun q => hoff.1 (q ▸ List.mem_iff_getElem?.mpr ⟨k, hb⟩)) e1, e2, e3, e4, e5, e6, keepB P _ (fun q => ?_) e7⟩
      rw [q, e] at e7
      have := congrArg (fun o : Option Obj => match o with | some ⟨_, _, .fields vs, _⟩ => vs.size | _ => 0) e7
      simp at this
  · refine wpAny_functionCode_hit hc ⟨o, vs, file, tf, flags, tg, inF, text, tt, _, ho', hd, h11, h2, h7, h9, h10, e, rfl, trivial, hne⟩ (c' := .ref c') ?_ ⟨c', S, rfl, e⟩
    simp [codeAmong, rawInt, hl, hcol]
theorem SR.pushFn (S : SR B ρ st s) {fd : FuncData} {ps : Arguments} {body : List Stmt} {scope : Scope} {q : Str} {cl : List (Str × Nat)} {t : TabD} {c : Addr} {tk : Nat} (ht : t ∈ B.tabs) (hq : t.q = q) (hP : s.heap.get? t.P = some (tabObj #[rawInt t.line, rawInt t.col, .ref c])) (hc : fd.code = .ref c)
    (hr : OR (ρ ++ [s.heap.objs.size]) (.fn ps body scope q cl t.P) { cls := .type "function", data := .func fd }) : SR B (ρ ++ [s.heap.objs.size]) (st ++ [.fn ps body scope q cl t.P]) { s with heap := s.heap.push { cls := .type "function", data := .func fd }, toks := tk } := by
  have S1 := S.push (tk := tk) (o := { cls := .type "function", data := .func fd }) (ao := .any) rfl trivial
  have len := S.len
  refine ⟨S1.keep, by simp [len], S1.nd, fun k a ao ha hao hro => ?_, fun k a ao ha hao => ?_, S1.gens, S1.os, (fun k a ha hao => by
    by_cases hlt : k < st.length
    · exact S1.eds k a ha (by rw [List.getElem?_append_left hlt] at hao ⊢; exact hao)
    · have hk : k = st.length := by have := (List.getElem?_eq_some_iff.mp hao).1; simp at this; omega
      subst hk
      simp at hao), S1.tab, fun k a ps' bd sc q' cl' P ha hao => ?_⟩
  · by_cases hlt : k < st.length
    · exact S1.apart k a ao ha (by rw [List.getElem?_append_left hlt] at hao ⊢; exact hao) hro
    · have hk : k = st.length := by have := (List.getElem?_eq_some_iff.mp hao).1; simp at this; omega
      subst hk
      exact S1.apart _ a .any ha (by simp) rfl
  · by_cases hlt : k < st.length
    · exact S1.obj k a ao ha (by rw [List.getElem?_append_left hlt] at hao ⊢; exact hao)
    · have hk : k = st.length := by have := (List.getElem?_eq_some_iff.mp hao).1; simp at this; omega
      subst hk
      have ha' : a = s.heap.objs.size := by rw [← len] at ha; simpa using ha.symm
      subst ha'
      have hao' : ao = .fn ps body scope q cl t.P := by simpa using hao.symm
      subst hao'
      exact ⟨_, Heap.get?_push_size _ rfl, hr⟩
  · by_cases hlt : k < st.length
    · exact S1.fns k a ps' bd sc q' cl' P ha (by rw [List.getElem?_append_left hlt] at hao ⊢; exact hao)
    · have hk : k = st.length := by have := (List.getElem?_eq_some_iff.mp hao).1; simp at this; omega
      subst hk
      have ha' : a = s.heap.objs.size := by rw [← len] at ha; simpa using ha.symm
      subst ha'
      have hao' : AO.fn ps body scope q cl t.P = .fn ps' bd sc q' cl' P := by simpa using hao
      cases hao'
      exact ⟨_, fd, c, t, Heap.get?_push_size _ rfl, rfl, hc, ht, rfl, hq, Heap.get?_push_of_some _ hP⟩
theorem zip_clR {f : Str → Addr} {Γ : Sc} {ae : AEnv} {env : Env} (hE : ER Γ ρ ae env) : ∀ {names : List Str} {cs : List Nat}, (∀ y ∈ names, y ∈ Γ.cn) → pick ae.cells (names.map Γ.cn.idxOf) = some cs → (∀ y ∈ names, env.cells.lookup y = some (f y)) → All2 (fun p q => p.1 = q.1 ∧ ρ[p.2]? = some q.2) (names.zip cs) (names.map fun n => (n, f n))
  | [], cs, _, h, _ => by cases h; exact .nil
  | y :: names, cs, hm, h, hf => by
    obtain ⟨c, h1, h⟩ := bind2 h
    obtain ⟨r, h2, h⟩ := bind2 h
    cases h
    obtain ⟨b, h3, h4⟩ := hE.cells y c (hm y (List.mem_cons_self ..)) h1
    have h5 := hf y (List.mem_cons_self ..)
    rw [h4] at h5
    refine .cons ⟨rfl, ?_⟩ (zip_clR hE (fun z hz => hm z (List.mem_cons_of_mem _ hz)) h2 fun z hz => hf z (List.mem_cons_of_mem _ hz))
    show ρ[c]? = some (f y)
    rw [← Option.some.inj h5]; exact h3
theorem pick_names {Γ : Sc} {ae : AEnv} {env : Env} (hE : ER Γ ρ ae env) : ∀ {names : List Str} {cs : List Nat}, (∀ y ∈ names, y ∈ Γ.cn) → pick ae.cells (names.map Γ.cn.idxOf) = some cs → ∀ y ∈ names, ∃ c, env.cells.lookup y = some c
  | [], cs, _, h, y, hy => by cases hy
  | z :: names, cs, hm, h, y, hy => by
    obtain ⟨c, h1, h⟩ := bind2 h
    obtain ⟨r, h2, h⟩ := bind2 h
    rcases List.mem_cons.mp hy with rfl | hy
    · obtain ⟨b, h3, h4⟩ := hE.cells y c (hm y (List.mem_cons_self ..)) h1
      exact ⟨b, h4⟩
    · exact pick_names hE (fun z hz => hm z (List.mem_cons_of_mem _ hz)) h2 y hy
theorem sound_def {name : Str} {args : Arguments} {body : List Stmt} {scope : Scope} {pos : Pos} {c : Addr} {td : TabD} {t : TAct} (hann : ∀ env, annTrees args none env = []) (hdef : args.defaults = []) (hkd : args.kw_defaults = []) (hko : args.kwonlyargs = [])
    (hdoc : docOf body = none) (hX : ∀ h tb, X h tb → CodeAt h c td.P ∧ td ∈ tb ∧ ∀ t' ∈ tb, t'.P = td.P → t' = td) (hline : td.line = pos.line) (hcol : td.col = pos.col) (hqual : td.q = Γ.qual ++ name) (hbm : ∀ h tb, X h tb → Bmod h mg) (hfree : ∀ y ∈ freeOf scope, y ∈ Γ.cn) (ht : SoundS prog w G mg mb X Γ d name t) (hglob : Γ.scope.names.lookup name ≠ some .globalExplicit) :
    SoundX prog w G mg mb X Γ d (.FunctionDef name args body [] none [] scope none name pos) (xDef c td.P args body scope (Γ.qual ++ name) (selOf Γ scope) t) := by
  intro B ae st r hB hr ρ env s A hA hE S
  unfold xDef at hr
  split at hr
  · rename_i hcode
    have hcode := isCode_ok hcode
    have hec : env.code = .ref c := by
      rcases hE.code with h | h
      · rw [hcode] at h; cases h
      · rw [h, hcode]
    obtain ⟨cs, h1, hr⟩ := bind2 hr
    obtain ⟨st2, h3, hr⟩ := bind2 hr
    cases hr
    obtain ⟨hXc, htd, hnd⟩ := hX B.g B.tabs hB.x
    rw [exec_def]
    have hfn : ∃ f : Str → Addr, ∀ y ∈ freeOf scope, env.cells.lookup y = some (f y) := ⟨fun y => (env.cells.lookup y).getD 0, fun y hy => by
      obtain ⟨b, hb⟩ := pick_names hE hfree h1 y hy
      simp [hb]⟩
    obtain ⟨f, hf⟩ := hfn
    have hclos : closureFor scope env = pure (clOf scope.names f []) := closure_ok f fun n hn => hf n (List.mem_map.mpr ⟨(n, .free), List.mem_filter.mpr ⟨hn, rfl⟩, rfl⟩)
    rw [clOf_eq, List.append_nil] at hclos
    have hcl : ClR ρ ((freeOf scope).zip cs).reverse ((freeOf scope).map fun n => (n, f n)).reverse := All2.reverse (zip_clR hE hfree h1 hf)
    have hq : qualnameIn env name name = Γ.qual ++ name := by
      unfold qualnameIn
      rw [hE.kindOf, hE.qual]
      rw [if_neg (by simpa using hglob)]
    obtain ⟨bm, ob, hb1, hb2, hb3, hb4, hb5, hb6⟩ := hbm B.g B.tabs hB.x
    refine wpAny_bind (wpAny_standAt (wpAny_bind (wpAny_holding ?_)))
    rw [defaultsOf_eq, hdef, hkd, hann, hq]
    refine wpAny_bind (wpAny_evalAll_nil (wpAny_bind (wpAny_holding (wpAny_pure (wpAny_holding (wpAny_bind (wpAny_pure ?_)))))))
    rw [makeFunction_eq, hko]
    refine wpAny_bind (wpAny_pure (wpAny_bind (wpAny_pure (wpAny_bind (wpAny_pure ?_)))))
    unfold makeTail
    rw [hclos]
    refine wpAny_bind (wpAny_pure ?_)
    have tail : ∀ (ct : Value) (h0 : Heap) (tk0 : Nat), (∀ b o, s.heap.get? b = some o → h0.get? b = some o) → wpAny (model prog w) A (do
        let fd : FuncData := { name, qualname := Γ.qual ++ name, params := args, body := .stmts body, scope, globals := env.globals, closure := ((freeOf scope).map fun n => (n, f n)).reverse, closureTuple := ct, code := ← functionCode env pos pos.line name (Γ.qual ++ name) args scope (.stmts body), builtins := ← builtinsFor env.globals env.builtins, defaults := .none, kwdefaults := .none, annotations := none, pyModule := (← nsGet env.globals "__name__").getD .none, doc := ← (match docOf body with | some s => mkText s | none => pure .none) }
        newObj (.type "function") (.func fd)) (fun v s' => ∃ ρ', ρ <+: ρ' ∧ SR B ρ' (st ++ [.fn args body scope (Γ.qual ++ name) ((freeOf scope).zip cs).reverse td.P]) s' ∧ VR ρ' (.ref st.length) v) NoE { s with heap := h0, toks := tk0 } := by
      intro ct h0 tk0 hk0
      have S0 := S.grown (tk := tk0) hk0
      rw [← hqual]
      refine wpAny_bind (wpAny_mono (code_ok hec hXc htd hnd hline hcol S0) (fun v s1 k1 => ?_) fun _ _ e => e)
      obtain ⟨c', S1, rfl, hP1⟩ := k1
      have hg1 : s1.heap.Ns env.globals mg := hE.glob ▸ hB.g.keeps S1.g
      refine wpAny_bind (wpAny_builtinsFor hg1 hb1 hb2 (S1.g _ _ hb3) hb4 hb5 hb6 ?_)
      refine wpAny_bind (wpAny_nsGet hg1 ?_)
      rw [hdoc]
      refine wpAny_bind (wpAny_pure ?_)
      refine wpAny_newObj_type ?_ (by size_fits)
      have len1 := S1.len
      have S2 := S1.pushFn (tk := s1.toks) (t := td) (c := c') (fd := { name, qualname := td.q, params := args, body := .stmts body, scope, globals := env.globals, closure := ((freeOf scope).map fun n => (n, f n)).reverse, closureTuple := ct, code := .ref c', builtins := builtinsNs, defaults := .none, kwdefaults := .none, annotations := none, pyModule := (mg "__name__").getD .none, doc := .none })
        (ps := args) (body := body) (scope := scope) (q := td.q) (cl := ((freeOf scope).zip cs).reverse) htd rfl hP1 rfl ⟨_, _, rfl, rfl, rfl, rfl, rfl, rfl, rfl, hE.glob, rfl, rfl, hcl.mono (List.prefix_append _ _), rfl, rfl⟩
      exact ⟨_, List.prefix_append _ _, S2, _, by rw [← len1]; simp, rfl⟩
    refine wpAny_mono (Q := fun v s' => ∃ ρ', ρ <+: ρ' ∧ SR B ρ' (st ++ [.fn args body scope (Γ.qual ++ name) ((freeOf scope).zip cs).reverse td.P]) s' ∧ VR ρ' (.ref st.length) v) ?_ (fun v s1 k1 => ?_) fun _ _ e => e
    · dsimp only
      split
      · exact wpAny_bind (wpAny_pure (tail .none s.heap s.toks fun _ _ e => e))
      · exact wpAny_bind (wpAny_newTextTuple (tail _ _ s.toks fun _ _ e => Heap.get?_push_of_some _ e))
    obtain ⟨ρ1, e1, S1, v1⟩ := k1
    refine wpAny_bind (wpAny_standAt (wpAny_bind (wpAny_bindName (wpAny_mono (ht B _ ae _ st2 hB h3 ρ1 env s1 A v hA (hE.mono e1) v1 S1) (fun u s2 k2 => ?_) fun _ _ e => e))))
    obtain ⟨ρ2, e2, S2⟩ := k2
    exact wpAny_pure ⟨ρ2, e1.trans e2, S2, rfl⟩
  · cases hr
end
def cOr (a b : CallF) : CallF := fun f args kw st => match a f args kw st with
  | some r => some r
  | .none => b f args kw st
def minI : List Int → Int
  | [] => 0
  | [a] => a
  | a :: r => if a ≤ minI r then a else minI r
def cLen : CallF := fun f args kw st => match f, args, kw with
  | .blt "len", [.ref k], [] => (itemsAt st k).bind fun xs => if xs.length ≤ 1000000 then some (.int xs.length, st) else .none
  | .blt "len", [.str s], [] => if s.length ≤ 1000000 then some (.int s.length, st) else .none
  | _, _, _ => .none
def cStrI : CallF := fun f args kw st => match f, args, kw with
  | .typ "str", [.int i], [] => if i.natAbs.log2 < 1920 then some (.str (Str.ofString (toString i)), st) else .none
  | _, _, _ => .none
def cIntS : CallF := fun f args kw st => match f, args, kw with
  | .typ "int", [.str s], [] => if s.length ≤ 640 then (PySem.intText? s).map fun n => (.int n, st) else .none
  | _, _, _ => .none
def cType : CallF := fun f args kw st => match f, args, kw with
  | .typ "type", [.str s], [] => some (.typ "str", st)
  | .typ "type", [.ref k], [] => (itemsAt st k).map fun _ => (.typ "list", st)
  | _, _, _ => .none
def cMin : CallF := fun f args kw st => match f, args, kw with
  | .blt "min", [.int a, .int b], [] => some (.int (if b < a then b else a), st)
  | .blt "min", [.ref k], [] => (itemsAt st k).bind fun xs => (intsOf xs).bind fun ns => if 0 < ns.length then some (.int (minI ns), st) else .none
  | _, _, _ => .none
def cSum : CallF := fun f args kw st => match f, args, kw with
  | .blt "sum", [.ref k], [] => (itemsAt st k).bind fun xs => (intsOf xs).map fun ns => (.int ns.sum, st)
  | _, _, _ => .none
def sortI (l : List Int) : List Int := l.mergeSort fun a b => decide (a ≤ b)
def cSorted : CallF := fun f args kw st => match f, args, kw with
  | .blt "sorted", [.ref k], [] => (itemsAt st k).bind fun xs => (intsOf xs).bind fun ns => if ns.length < 64 then some (.ref st.length, st ++ [.list ((sortI ns).map .int)]) else .none
  | _, _, _ => .none
def cDivmod : CallF := fun f args kw st => match f, args, kw with
  | .blt "divmod", [.int a, .int b], [] => if b ≠ 0 ∧ Builtin.divisionGoesByPylong a b = false then some (.ref st.length, st ++ [.tup [.int (a.fdiv b), .int (a.fmod b)]]) else .none
  | _, _, _ => .none
section
variable {prog : Program} {w : World} {G : List (Str × AV)} {mg mb : Str → Option Value} {X : Heap → List TabD → Prop} {Γ : Sc} {d : Nat} {A : Around} {s : Shared} {B : Base} {ρ : List Addr} {st : St}
theorem sound_cor {a b : CallF} (ha : SoundC prog w G mg mb X d a) (hb : SoundC prog w G mg mb X d b) : SoundC prog w G mg mb X d (cOr a b) := by
  intro B f args kw st r hB h
  unfold cOr at h
  split at h
  · rename_i r' e; cases h; exact ha B f args kw st _ hB e
  · exact hb B f args kw st r hB h
theorem keeper_blt {n : String} : KeeperOk prog w A (.builtin n) s := fun Q h => wpAny_pure (h _)
theorem keeper_typ {n : String} : KeeperOk prog w A (.type n) s := fun Q h => wpAny_pure (h _)
theorem All2.inv1 {α β : Type} {R : α → β → Prop} {a : α} {m : List β} (h : All2 R [a] m) : ∃ b, m = [b] ∧ R a b := by
  cases h with
  | cons x r => cases r; exact ⟨_, rfl, x⟩
theorem All2.inv2 {α β : Type} {R : α → β → Prop} {a a' : α} {m : List β} (h : All2 R [a, a'] m) : ∃ b b', m = [b, b'] ∧ R a b ∧ R a' b' := by
  cases h with
  | cons x r => obtain ⟨b', rfl, y⟩ := r.inv1; exact ⟨_, _, rfl, x, y⟩
theorem KwR.nil' {kvs : List (Str × Value)} (h : KwR ρ [] kvs) : kvs = [] := by unfold KwR at h; cases h; rfl
theorem sound_len : SoundC prog w G mg mb X d cLen := by
  intro B f args kw st r hB h ρ fv vs kvs s A hA hf hargs hkw S
  unfold cLen at h
  split at h
  · obtain rfl := hf; obtain ⟨v, rfl, hv⟩ := hargs.inv1; obtain rfl := hkw.nil'
    obtain ⟨xs, h1, h⟩ := bind2 h
    split at h
    · rename_i hb
      cases h
      obtain ⟨a, ha, rfl⟩ := hv
      obtain ⟨vs, hvs, hL⟩ := S.itemsOf ha h1
      have e := hvs.length
      exact ⟨keeper_blt, call_len_list hL (by simp only [List.size_toArray]; omega) (Post.here S.toks ⟨s.toks + 1, by simp [e]⟩)⟩
    · cases h
  · obtain rfl := hf; obtain ⟨v, rfl, hv⟩ := hargs.inv1; obtain rfl := hkw.nil'
    obtain ⟨t, rfl⟩ := hv
    split at h
    · rename_i hb
      cases h
      exact ⟨keeper_blt, PyProof.Rows.len_str (by omega) (Post.here S.toks ⟨_, rfl⟩)⟩
    · cases h
  · cases h
theorem sound_stri : SoundC prog w G mg mb X d cStrI := by
  intro B f args kw st r hB h ρ fv vs kvs s A hA hf hargs hkw S
  unfold cStrI at h
  split at h
  · obtain rfl := hf; obtain ⟨v, rfl, hv⟩ := hargs.inv1; obtain rfl := hkw.nil'
    obtain ⟨t, rfl⟩ := hv
    split at h
    · rename_i hb
      cases h
      exact ⟨keeper_typ, P.str_of_int hb (Post.here S.toks ⟨_, rfl⟩)⟩
    · cases h
  · cases h
theorem sound_ints : SoundC prog w G mg mb X d cIntS := by
  intro B f args kw st r hB h ρ fv vs kvs s A hA hf hargs hkw S
  unfold cIntS at h
  split at h
  · obtain rfl := hf; obtain ⟨v, rfl, hv⟩ := hargs.inv1; obtain rfl := hkw.nil'
    obtain ⟨t, rfl⟩ := hv
    split at h
    · rename_i hb
      obtain ⟨n, h1, h2⟩ := Option.map_eq_some_iff.mp h
      subst h2
      exact ⟨keeper_typ, KIN.call_text h1 hb (Post.here S.toks ⟨_, rfl⟩)⟩
    · cases h
  · cases h
theorem sound_type : SoundC prog w G mg mb X d cType := by
  intro B f args kw st r hB h ρ fv vs kvs s A hA hf hargs hkw S
  unfold cType at h
  split at h
  · obtain rfl := hf; obtain ⟨v, rfl, hv⟩ := hargs.inv1; obtain rfl := hkw.nil'
    obtain ⟨t, rfl⟩ := hv
    cases h
    exact ⟨keeper_typ, call_type_of (Tx := "str") rfl (by decide +kernel) (Post.here S rfl)⟩
  · obtain rfl := hf; obtain ⟨v, rfl, hv⟩ := hargs.inv1; obtain rfl := hkw.nil'
    obtain ⟨xs, h1, h2⟩ := Option.map_eq_some_iff.mp h
    subst h2
    obtain ⟨a, ha, rfl⟩ := hv
    obtain ⟨vs, hvs, hL⟩ := S.itemsOf ha h1
    exact ⟨keeper_typ, call_type_of (Tx := "list") hL.typeIs (by decide +kernel) (Post.here S rfl)⟩
  · cases h
theorem minI_ok : ∀ {l : List Int}, l ≠ [] → minI l ∈ l ∧ ∀ a ∈ l, minI l ≤ a
  | [a], _ => by simp [minI]
  | a :: b :: r, _ => by
    have ih := minI_ok (l := b :: r) (by simp)
    unfold minI
    split
    · rename_i h
      refine ⟨List.mem_cons_self .., fun x hx => ?_⟩
      rcases List.mem_cons.mp hx with rfl | hx
      · omega
      · have := ih.2 x hx; omega
    · rename_i h
      refine ⟨List.mem_cons_of_mem _ ih.1, fun x hx => ?_⟩
      rcases List.mem_cons.mp hx with rfl | hx
      · omega
      · exact ih.2 x hx
theorem sound_min : SoundC prog w G mg mb X d cMin := by
  intro B f args kw st r hB h ρ fv vs kvs s A hA hf hargs hkw S
  unfold cMin at h
  split at h
  · rename_i a b
    obtain rfl := hf; obtain ⟨v, v', rfl, hv, hv'⟩ := hargs.inv2; obtain rfl := hkw.nil'
    obtain ⟨t, rfl⟩ := hv; obtain ⟨t', rfl⟩ := hv'
    cases h
    refine ⟨keeper_blt, PySem.Flt.min_two_num hA.handled (.int _ _) (.int _ _) fun h' tk hk => ?_⟩
    refine ⟨ρ, List.prefix_refl _, S.grown hk, ?_⟩
    show VR ρ _ (if decide (b < a) = true then _ else _)
    by_cases hc : b < a
    · simp only [hc, decide_true, if_true]; exact ⟨_, rfl⟩
    · simp only [hc, decide_false, if_false, Bool.false_eq_true]; exact ⟨_, rfl⟩
  · obtain rfl := hf; obtain ⟨v, rfl, hv⟩ := hargs.inv1; obtain rfl := hkw.nil'
    obtain ⟨xs, h1, h⟩ := bind2 h
    obtain ⟨ns, h2, h⟩ := bind2 h
    split at h
    · rename_i hpos
      cases h
      obtain ⟨a, ha, rfl⟩ := hv
      obtain ⟨vs, hvs, hL⟩ := S.itemsOf ha h1
      have hi := ints_are h2 hvs
      obtain ⟨ys, e⟩ := hi.allInts.items
      have hns : ns = ys.toList.map (·.1) := by rw [← hi.numsOf, ← nums_intItems, ← e]
      have hsz : 0 < ys.size := by
        have h3 := hpos; rw [hns, List.length_map, Array.length_toList] at h3; exact h3
      rw [e] at hL
      refine ⟨keeper_blt, min_intList hA.handled hL hsz fun v h' tk hv hk => ?_⟩
      obtain ⟨t, rfl⟩ := intItems_at hv
      obtain ⟨b1, b2⟩ := argBest_lt (numAt ys) (ys.size - 1)
      have m1 : numAt ys (argBest (fun i j => decide (numAt ys i < numAt ys j)) (ys.size - 1)) ∈ ns := by
        rw [hns, numAt_eq]; exact getD_mem (by rw [List.length_map, Array.length_toList]; omega)
      have m2 := minI_ok (l := ns) (by intro e; rw [e] at hpos; simp at hpos)
      have m3 : ∀ x ∈ ns, numAt ys (argBest (fun i j => decide (numAt ys i < numAt ys j)) (ys.size - 1)) ≤ x := fun x hx => by
        rw [hns] at hx
        obtain ⟨j, hj, rfl⟩ := mem_getD hx
        rw [List.length_map, Array.length_toList] at hj
        rw [← numAt_eq]; exact b2 j (by omega)
      have m4 : numAt ys (argBest (fun i j => decide (numAt ys i < numAt ys j)) (ys.size - 1)) = minI ns := Int.le_antisymm (m3 _ m2.1) (m2.2 _ m1)
      exact ⟨ρ, List.prefix_refl _, S.grown hk, t, by rw [m4]⟩
    · cases h
  · cases h
theorem sound_sum : SoundC prog w G mg mb X d cSum := by
  intro B f args kw st r hB h ρ fv vs kvs s A hA hf hargs hkw S
  unfold cSum at h
  split at h
  · obtain rfl := hf; obtain ⟨v, rfl, hv⟩ := hargs.inv1; obtain rfl := hkw.nil'
    obtain ⟨xs, h1, h⟩ := bind2 h
    obtain ⟨ns, h2, h3⟩ := Option.map_eq_some_iff.mp h
    subst h3
    obtain ⟨a, ha, rfl⟩ := hv
    obtain ⟨vs, hvs, hL⟩ := S.itemsOf ha h1
    have hi := ints_are h2 hvs
    obtain ⟨ys, hx⟩ := hi.allInts.items
    have hl' : s.heap.IsList a (intItems ys) := hx ▸ hL
    refine ⟨keeper_blt, sum_intListG hA.handled hl' fun h' tk t' hk => ?_⟩
    have e1 : ns = ys.toList.map (·.1) := by
      rw [← nums_intItems, ← hx]
      exact (show numsOf vs.toArray.toList = ns from hi.numsOf).symm
    have e2 : preSum (numAt ys) ys.size = ns.sum := by
      rw [preSum_eq, List.take_of_length_le (by simp), e1]
    exact ⟨ρ, List.prefix_refl _, S.grown hk, t', by rw [e2]⟩
  · cases h
theorem all2_ints {vs : List Value} {ns : List Int} (h : IntsAre vs ns) : All2 (VR ρ) (ns.map .int) vs := by
  induction h with
  | nil => exact .nil
  | cons => rename_i ih; exact .cons ⟨_, rfl⟩ ih
theorem sort_unique {a b : List Int} (p : a.Perm b) (ha : a.Pairwise (· ≤ ·)) : a = sortI b := by
  have hb : (sortI b).Pairwise (· ≤ ·) := by
    have := List.pairwise_mergeSort (le := fun a b : Int => decide (a ≤ b)) (fun a b c h1 h2 => by simp only [decide_eq_true_eq] at *; omega) (fun a b => by simp only [Bool.or_eq_true, decide_eq_true_eq]; omega) b
    exact this.imp (by simp)
  exact (p.trans (List.mergeSort_perm b _).symm).eq_of_pairwise (fun x y _ _ h1 h2 => Int.le_antisymm h1 h2) ha hb
theorem sound_sorted : SoundC prog w G mg mb X d cSorted := by
  intro B f args kw st r hB h ρ fv vs kvs s A hA hf hargs hkw S
  unfold cSorted at h
  split at h
  · obtain rfl := hf; obtain ⟨v, rfl, hv⟩ := hargs.inv1; obtain rfl := hkw.nil'
    obtain ⟨xs, h1, h⟩ := bind2 h
    obtain ⟨ns, h2, h⟩ := bind2 h
    split at h
    · rename_i h64
      cases h
      obtain ⟨a, ha, rfl⟩ := hv
      obtain ⟨vs, hvs, hL⟩ := S.itemsOf ha h1
      have hi := ints_are h2 hvs
      have e1 := IntsAre.length hi
      refine ⟨keeper_blt, sorted_ints hL hi (by omega) fun out ns' a1 a2 a3 => ?_⟩
      obtain ⟨e, he⟩ := sortedAll_at s.heap vs out
      have hs := sort_unique a2 a3
      subst hs
      have S2 := S.alloc (tk := s.toks) (a := s.heap.objs.size + 1) (ao := .list ((sortI ns).map .int)) (fun _ _ => sortedAll_old) (by
        cases e : s.heap.get? (s.heap.objs.size + 1) with
        | none => rfl
        | some x => exact absurd (Nat.lt_of_succ_lt (Heap.lt_size e)) (Nat.lt_irrefl _)) he ⟨out.toList, e, by simp, all2_ints a1⟩
      exact ⟨_, List.prefix_append _ _, S2, _, by rw [← S.len]; simp, rfl⟩
    · cases h
  · cases h
theorem sound_divmod : SoundC prog w G mg mb X d cDivmod := by
  intro B f args kw st r hB h ρ fv vs kvs s A hA hf hargs hkw S
  unfold cDivmod at h
  split at h
  · rename_i a b
    obtain rfl := hf; obtain ⟨v, v', rfl, hv, hv'⟩ := hargs.inv2; obtain rfl := hkw.nil'
    obtain ⟨t, rfl⟩ := hv; obtain ⟨t', rfl⟩ := hv'
    split at h
    · rename_i hc
      cases h
      refine ⟨keeper_blt, divmod_int hc.1 ?_ (Or.inl hc.2)⟩
      have S2 := S.push (tk := s.toks + 1 + 1) (o := { cls := .type "tuple", data := .seq #[.int (a.fdiv b) s.toks, .int (a.fmod b) (s.toks + 1)] }) (ao := .tup [.int (a.fdiv b), .int (a.fmod b)]) rfl
        ⟨[.int (a.fdiv b) s.toks, .int (a.fmod b) (s.toks + 1)], 0, rfl, .cons ⟨_, rfl⟩ (.cons ⟨_, rfl⟩ .nil)⟩
      exact ⟨_, List.prefix_append _ _, S2, _, by rw [← S.len]; simp, rfl⟩
    · cases h
  · cases h
end
def mStr : MethF := fun x name st => match x with
  | .str s =>
    if name = "lower" then some (.blt "str.lower", [.str s])
    else if name = "upper" then some (.blt "str.upper", [.str s])
    else if name = "swapcase" then some (.blt "str.swapcase", [.str s])
    else if name = "rstrip" then some (.blt "str.rstrip", [.str s])
    else if name = "replace" then some (.blt "str.replace", [.str s])
    else if name = "join" then some (.blt "str.join", [.str s])
    else .none
  | .int i => if name = "bit_length" then some (.blt "int.bit_length", [.int i]) else .none
  | .ref k => (listAt st k).bind fun _ =>
    if name = "append" then some (.blt "list.append", [.ref k])
    else if name = "reverse" then some (.blt "list.reverse", [.ref k])
    else if name = "count" then some (.blt "list.count", [.ref k])
    else .none
  | _ => .none
def cStrM : CallF := fun f args kw st => match f, args, kw with
  | .blt "str.lower", [.str s], [] => if s.length ≤ 1000 then some (.str (Txt.lower s), st) else .none
  | .blt "str.upper", [.str s], [] => if s.length ≤ 1000 then some (.str (Txt.upper s), st) else .none
  | .blt "str.swapcase", [.str s], [] => if s.length ≤ 1000 then some (.str (Txt.swapcase s), st) else .none
  | .blt "str.rstrip", [.str s], [] => if s.length ≤ 1000 then some (.str (Txt.rstrip s), st) else .none
  | .blt "str.replace", [.str s, .str y, .str z], [] => if (Builtin.Str.occurrences s y 0 s.length (s.length + 1)).isEmpty = true then some (.str s, st) else .none
  | .blt "str.join", [.str s, .ref k], [] => (itemsAt st k).bind fun xs => (strsOf xs).bind fun ys => if (ys.map (·.length)).sum + ys.length * s.length ≤ 16777216 then some (.str (Txt.join s ys), st) else .none
  | _, _, _ => .none
def cListM : CallF := fun f args kw st => match f, args, kw with
  | .blt "list.append", [.ref k, v], [] => (appendAt k v st).map fun st' => (.none, st')
  | .blt "list.reverse", [.ref k], [] => (listAt st k).bind fun xs => if xs.length ≤ 1000000 then some (.none, st.set k (.list xs.reverse)) else .none
  | .blt "list.count", [.ref k, .int i], [] => (itemsAt st k).bind fun xs => (intsOf xs).map fun ns => (.int (ns.count i : Nat), st)
  | .blt "int.bit_length", [.int i], [] => some (.int (Builtin.Int.intBits i), st)
  | _, _, _ => .none
section
variable {prog : Program} {w : World} {G : List (Str × AV)} {mg mb : Str → Option Value} {X : Heap → List TabD → Prop} {Γ : Sc} {d : Nat} {A : Around} {s : Shared} {B : Base} {ρ : List Addr} {st : St}
theorem sound_mstr : SoundM prog w G mg mb X d mStr := by
  intro B x name st r hB h ρ v s A pl hA hv S
  unfold mStr at h
  split at h
  · rename_i y
    obtain ⟨t, rfl⟩ := hv
    have fin : ∀ (id : String), some (AV.blt id, [AV.str y]) = some r → SR B ρ st s ∧ VR ρ r.1 (.builtin id) ∧ All2 (VR ρ) r.2 [.str y t] := fun id e => by cases e; exact ⟨S, rfl, .cons ⟨t, rfl⟩ .nil⟩
    split at h
    · rename_i e; subst e; exact GM.lower (fin _ h)
    split at h
    · rename_i e; subst e; exact GM.upper (fin _ h)
    split at h
    · rename_i e; subst e; exact GM.swapcase (fin _ h)
    split at h
    · rename_i e; subst e; exact GM.rstrip (fin _ h)
    split at h
    · rename_i e; subst e; exact GM.of (.str y t) (typeIs_str _ _ _) F.slot_str_replace F.type_str_replace (fun a e => by cases e) (fin _ h)
    split at h
    · rename_i e; subst e; exact GM.join (fin _ h)
    · cases h
  · obtain ⟨t, rfl⟩ := hv
    split at h
    · rename_i e; subst e; cases h; exact getMethod_int_bit_length ⟨S, rfl, .cons ⟨t, rfl⟩ .nil⟩
    · cases h
  · rename_i k
    obtain ⟨xs, h1, h0⟩ := bind2 h
    clear h
    have h := h0
    clear h0
    obtain ⟨a, ha, rfl⟩ := hv
    obtain ⟨vs, n, hL, hvs⟩ := S.listOf ha h1
    have fin : ∀ (id : String), some (AV.blt id, [AV.ref k]) = some r → SR B ρ st s ∧ VR ρ r.1 (.builtin id) ∧ All2 (VR ρ) r.2 [.ref a] := fun id e => by cases e; exact ⟨S, rfl, .cons ⟨a, ha, rfl⟩ .nil⟩
    have gm : ∀ {name : Str} {id : String}, Slot "list" name id → typeOf (.builtin id) = pure (.type "method_descriptor") → some (AV.blt id, [AV.ref k]) = some r →
        wpAny (model prog w) A (getMethod (.ref a) name pl) (fun fx s' => SR B ρ st s' ∧ VR ρ r.1 fx.1 ∧ All2 (VR ρ) r.2 fx.2) NoE s := fun slot ty e =>
      getMethod_builtin hL.isList.typeIs PySem.F.plainAttrs_list slot ty (fun b e => by cases e; exact ⟨_, hL, rfl⟩) (fin _ e)
    split at h
    · rename_i e; subst e; exact gm PySem.F.slot_list_append PySem.F.type_list_append h
    split at h
    · rename_i e; subst e; exact gm PySem.F.slot_list_reverse PySem.F.type_list_reverse h
    split at h
    · rename_i e; subst e; exact gm PySem.F.slot_list_count PySem.F.type_list_count h
    · cases h
  · cases h
theorem sound_cstr : SoundC prog w G mg mb X d cStrM := by
  intro B f args kw st r hB h ρ fv vs kvs s A hA hf hargs hkw S
  unfold cStrM at h
  split at h
  · obtain rfl := hf; obtain ⟨v, rfl, hv⟩ := hargs.inv1; obtain rfl := hkw.nil'
    obtain ⟨t, rfl⟩ := hv
    split at h
    · cases h; exact ⟨keeper_blt, SCL.lower (by omega) fun _ => Post.here S.toks ⟨_, rfl⟩⟩
    · cases h
  · obtain rfl := hf; obtain ⟨v, rfl, hv⟩ := hargs.inv1; obtain rfl := hkw.nil'
    obtain ⟨t, rfl⟩ := hv
    split at h
    · cases h; exact ⟨keeper_blt, SCL.upper (by omega) fun _ => Post.here S.toks ⟨_, rfl⟩⟩
    · cases h
  · obtain rfl := hf; obtain ⟨v, rfl, hv⟩ := hargs.inv1; obtain rfl := hkw.nil'
    obtain ⟨t, rfl⟩ := hv
    split at h
    · cases h; exact ⟨keeper_blt, SCL.swapcase (by omega) fun _ => Post.here S.toks ⟨_, rfl⟩⟩
    · cases h
  · obtain rfl := hf; obtain ⟨v, rfl, hv⟩ := hargs.inv1; obtain rfl := hkw.nil'
    obtain ⟨t, rfl⟩ := hv
    split at h
    · cases h; exact ⟨keeper_blt, SCL.rstrip (fun t' k _ => Post.here S.toks ⟨_, rfl⟩) (by have := sizeLine_eq; omega)⟩
    · cases h
  · rename_i s0 y z
    obtain rfl := hf; obtain rfl := hkw.nil'
    cases hargs with
    | cons hv r1 =>
    obtain ⟨v2, v3, rfl, h2, h3⟩ := r1.inv2
    obtain ⟨t, rfl⟩ := hv; obtain ⟨u, rfl⟩ := h2; obtain ⟨u', rfl⟩ := h3
    split at h
    · rename_i hc
      cases h
      refine ⟨keeper_blt, call_gives F.slot_str_replace (typeIs_str _ _ _) F.entry_str_replace (F.args_str_replace_3 _ _ _) (gives_str_replace s0 y z t u u' fun e => by rw [hc] at e; cases e) ?_⟩
      rw [if_pos (by rw [hc]; rfl)]
      exact Post.here S ⟨_, rfl⟩
    · cases h
  · obtain rfl := hf; obtain ⟨v, v', rfl, hv, hv'⟩ := hargs.inv2; obtain rfl := hkw.nil'
    obtain ⟨t, rfl⟩ := hv
    obtain ⟨xs, h1, h⟩ := bind2 h
    obtain ⟨ys, h2, h⟩ := bind2 h
    split at h
    · rename_i hb
      cases h
      obtain ⟨a, ha, rfl⟩ := hv'
      obtain ⟨vs, hvs, hL⟩ := S.itemsOf ha h1
      exact ⟨keeper_blt, PyProof.Rows.join_list hL (by simpa using strs_are h2 hvs) hb fun t' k => Post.here S.toks ⟨_, rfl⟩⟩
    · cases h
  · cases h
theorem sound_clist : SoundC prog w G mg mb X d cListM := by
  intro B f args kw st r hB h ρ fv vs kvs s A hA hf hargs hkw S
  unfold cListM at h
  split at h
  · obtain rfl := hf; obtain ⟨v, v', rfl, hv, hv'⟩ := hargs.inv2; obtain rfl := hkw.nil'
    obtain ⟨st', h1, h2⟩ := Option.map_eq_some_iff.mp h
    subst h2
    exact ⟨keeper_blt, wpAny_mono (append_ok h1 S hv hv') (fun r s' ⟨e, S'⟩ => Post.here S' e) fun _ _ e => e⟩
  · rename_i k
    obtain rfl := hf; obtain ⟨v, rfl, hv⟩ := hargs.inv1; obtain rfl := hkw.nil'
    obtain ⟨xs, h1, h⟩ := bind2 h
    split at h
    · rename_i hb
      cases h
      obtain ⟨a, ha, rfl⟩ := hv
      obtain ⟨vs, n, hL, hvs⟩ := S.listOf ha h1
      have len := hvs.length
      have hst : st[k]? = some (.list xs) := by
        unfold listAt at h1
        split at h1
        · rename_i ys e; cases h1; exact e
        · cases h1
      refine ⟨keeper_blt, call_meets F.slot_list_reverse ⟨_, hL, rfl⟩ F.entry_list_reverse (F.args_list_reverse_1 _) (AutoSeq1.list_reverse_list_0 a vs.toArray n (by have := sizeLine_eq; simp only [List.size_toArray]; omega)) ⟨hL, ?_⟩⟩
      refine ⟨ρ, List.prefix_refl _, S.update (tk := s.toks) ha hst rfl (fun b ob hne e => (Heap.get?_update_other _ _ (Ne.symm hne)).trans e) (hL.update (·.reverse)) ⟨vs.reverse, n, by simp, hvs.reverse⟩, rfl⟩
    · cases h
  · obtain rfl := hf; obtain ⟨v, v', rfl, hv, hv'⟩ := hargs.inv2; obtain rfl := hkw.nil'
    obtain ⟨t, rfl⟩ := hv'
    obtain ⟨xs, h1, h⟩ := bind2 h
    obtain ⟨ns, h2, h3⟩ := Option.map_eq_some_iff.mp h
    subst h3
    obtain ⟨a, ha, rfl⟩ := hv
    obtain ⟨vs, hvs, hL⟩ := S.itemsOf ha h1
    exact ⟨keeper_blt, count_list_ints hL (ints_are h2 hvs) (Post.here S.toks ⟨_, rfl⟩)⟩
  · obtain rfl := hf; obtain ⟨v, rfl, hv⟩ := hargs.inv1; obtain rfl := hkw.nil'
    obtain ⟨t, rfl⟩ := hv
    cases h
    exact ⟨keeper_blt, call_int_bit_length (Post.here S.toks ⟨_, rfl⟩)⟩
  · cases h
end
def rngOf : List AV → Option (Int × Int × Int)
  | [.int n] => if Builtin.Range.small 0 n 1 = true ∧ 0 ≤ Builtin.Range.rangeSize 0 n 1 then some (0, n, 1) else .none
  | [.int a, .int b] => if Builtin.Range.small a b 1 = true ∧ 0 ≤ Builtin.Range.rangeSize a b 1 then some (a, b, 1) else .none
  | [.int a, .int b, .int c] => if c ≠ 0 ∧ Builtin.divisionGoesByPylong (b - a) c = false ∧ Builtin.Range.small a b c = true ∧ 0 ≤ Builtin.Range.rangeSize a b c then some (a, b, c) else .none
  | _ => .none
def iCall (f : Act AV) (args : Act (List AV)) : Act It := fun ae st => (f ae st).bind fun p => (args ae p.2).bind fun q => match p.1 with
  | .typ "range" => (rngOf q.1).bind fun x => some (.rng x.1 x.2.2 (Builtin.Range.rangeSize x.1 x.2.1 x.2.2).toNat, q.2)
  | .typ "reversed" => (match q.1 with
    | [.ref k] => (itemsAt q.2 k).bind fun xs => some (.rev k xs.length, q.2)
    | _ => .none)
  | _ => .none
def rangeInts (a c : Int) : Nat → Nat → List Int
  | 0, _ => []
  | n + 1, i => (a + i * c) :: rangeInts a c n (i + 1)
def bListRange (fl : Act AV) (f : Act AV) (args : Act (List AV)) : Act AV := fun ae st => (fl ae st).bind fun l => (f ae l.2).bind fun p => (args ae p.2).bind fun q => match l.1, p.1 with
  | .typ "list", .typ "range" => (rngOf q.1).bind fun x => if Builtin.Range.rangeSize x.1 x.2.1 x.2.2 ≤ 1000000 then
      some (.ref q.2.length, q.2 ++ [.list ((rangeInts x.1 x.2.2 (Builtin.Range.rangeSize x.1 x.2.1 x.2.2).toNat 0).map .int)]) else .none
  | _, _ => .none
section
variable {prog : Program} {w : World} {G : List (Str × AV)} {mg mb : Str → Option Value} {X : Heap → List TabD → Prop} {Γ : Sc} {d : Nat} {A : Around} {s : Shared} {B : Base} {ρ : List Addr} {st : St}
theorem rngOf_ok {args : List AV} {x : Int × Int × Int} (h : rngOf args = some x) : Builtin.Range.small x.1 x.2.1 x.2.2 = true ∧ 0 ≤ Builtin.Range.rangeSize x.1 x.2.1 x.2.2 := by
  unfold rngOf at h
  split at h
  · split at h
    · rename_i hc; cases h; exact hc
    · cases h
  · split at h
    · rename_i hc; cases h; exact hc
    · cases h
  · split at h
    · rename_i hc; cases h; exact hc.2.2
    · cases h
  · cases h
theorem range_ok {args : List AV} {x : Int × Int × Int} {vs : List Value} (h : rngOf args = some x) (hv : All2 (VR ρ) args vs) (S : SR B ρ st s) :
    wpAny (model prog w) A (call (.type "range") vs []) (fun v s' => SR B ρ st s' ∧ ∃ r t u y, v = .ref r ∧ IsRange s'.heap r x.1 x.2.1 x.2.2 t u y) NoE s := by
  unfold rngOf at h
  split at h
  · split at h
    · cases h
      obtain ⟨v, rfl, hv1⟩ := hv.inv1
      obtain ⟨t, rfl⟩ := hv1
      refine PySem.call_range_1 ?_
      exact ⟨S.grown fun _ _ e => Heap.get?_push_of_some _ e, _, _, _, _, rfl, IsRange.new ..⟩
    · cases h
  · split at h
    · cases h
      obtain ⟨v, v', rfl, hv, hv'⟩ := hv.inv2
      obtain ⟨t, rfl⟩ := hv; obtain ⟨t', rfl⟩ := hv'
      refine PySem.call_range_2 ?_
      exact ⟨S.grown fun _ _ e => Heap.get?_push_of_some _ e, _, _, _, _, rfl, IsRange.new ..⟩
    · cases h
  · split at h
    · rename_i hc
      cases h
      cases hv with
      | cons h1 r1 =>
      obtain ⟨v2, v3, rfl, h2, h3⟩ := r1.inv2
      obtain ⟨t, rfl⟩ := h1; obtain ⟨u, rfl⟩ := h2; obtain ⟨u', rfl⟩ := h3
      exact call_range_3 hc.1 ⟨S.grown fun _ _ e => Heap.get?_push_of_some _ e, _, _, _, _, rfl, IsRange.new ..⟩ (Or.inl hc.2.1)
    · cases h
  · cases h
theorem sound_icall {x : Str} {p pos : Pos} {args : List Expr} {f a} (hf : SoundE prog w G mg mb X Γ d (.Name x p) f) (ha : SL prog w G mg mb X Γ d args a) (hst : args.all (fun e => !isStarred e) = true) :
    SoundI prog w G mg mb X Γ d (.Call (.Name x p) args [] pos) (iCall f a) := by
  intro B ae st res hB h ρ env s A hA hE S
  obtain ⟨p1, h1, h⟩ := bind2 h
  obtain ⟨p2, h2, h⟩ := bind2 h
  rw [eval_Call_Name]
  refine wpAny_bind (wpAny_mono (hf B ae st p1 hB h1 ρ env s A hA hE S) (fun v s1 k1 => ?_) fun _ _ e => e)
  obtain ⟨ρ1, e1, S1, v1⟩ := k1
  refine callWith_base (evalArgs_base (k := kNil) hB ha hst rfl h2 rfl hA (hE.mono e1) S1 fun ρ2 vs kvs s2 e2 S2 v2 k2 => ?_)
  obtain rfl := k2.nil'
  have e12 := e1.trans e2
  split at h
  · rename_i hp
    rw [hp] at v1
    obtain rfl := v1
    obtain ⟨y, h3, h⟩ := bind2 h
    cases h
    refine ⟨keeper_typ, wpAny_mono (range_ok h3 v2 S2) (fun v s3 k3 => ?_) fun _ _ e => e⟩
    obtain ⟨S3, r, t, u, z, rfl, hr⟩ := k3
    obtain ⟨c1, c2⟩ := rngOf_ok h3
    refine wpAny_pyIter_range hr c1 ⟨ρ2, _, _, e12, S3.push_pin (tk := s3.toks) rfl, S3.fresh_apart (size_none _), ⟨Nat.zero_le _, ?_⟩, rfl⟩
    have e5 : ((Builtin.Range.rangeSize y.1 y.2.1 y.2.2).toNat : Int) = Builtin.Range.rangeSize y.1 y.2.1 y.2.2 := Int.toNat_of_nonneg c2
    simp [e5]
  · rename_i hp
    rw [hp] at v1
    obtain rfl := v1
    split at h
    · rename_i k hq
      obtain ⟨xs, h3, h⟩ := bind2 h
      cases h
      rw [hq] at v2
      obtain ⟨v, rfl, hv⟩ := v2.inv1
      obtain ⟨b, hb, rfl⟩ := hv
      obtain ⟨vs, hvs, hL⟩ := S2.itemsOf hb h3
      have len := hvs.length
      refine ⟨keeper_typ, call_reversed_list hL ?_⟩
      have S3 := S2.push_pin (tk := s2.toks) (o := revObj b ((vs.toArray.size : Int) - 1)) rfl
      refine wpAny_pyIter_revIter ⟨_, Heap.get?_push_size _ rfl, rfl, rfl⟩ ⟨ρ2, _, _, e12, S3, S2.fresh_apart (size_none _), ⟨Nat.zero_le _, b, hb, rfl, ?_⟩, rfl⟩
      simp [revObj, len]
    · cases h
  · cases h
theorem rangeInts_get (a c : Int) : ∀ (n i j : Nat), j < n → (rangeInts a c n i)[j]? = some (a + (i + j : Nat) * c)
  | 0, i, j, h => by omega
  | n + 1, i, 0, h => by simp [rangeInts]
  | n + 1, i, j + 1, h => by
    have := rangeInts_get a c n (i + 1) j (by omega)
    simp only [rangeInts, List.getElem?_cons_succ, this]
    congr 3; omega
theorem rangeInts_len (a c : Int) : ∀ (n i : Nat), (rangeInts a c n i).length = n
  | 0, _ => rfl
  | n + 1, i => by simp [rangeInts, rangeInts_len a c n]
theorem all2_of_get {α β : Type} {R : α → β → Prop} : ∀ {l : List α} {m : List β}, l.length = m.length → (∀ (i : Nat) (a : α) (b : β), l[i]? = some a → m[i]? = some b → R a b) → All2 R l m
  | [], [], _, _ => .nil
  | a :: l, b :: m, h, k => .cons (k 0 a b rfl rfl) (all2_of_get (by simpa using h) fun i x y hx hy => k (i + 1) x y (by simpa using hx) (by simpa using hy))
theorem sound_listRange {x y : Str} {p p' pos pos' : Pos} {args : List Expr} {fl f a} (hl : SoundE prog w G mg mb X Γ d (.Name y p') fl) (hf : SoundE prog w G mg mb X Γ d (.Name x p) f) (ha : SL prog w G mg mb X Γ d args a) (hst : args.all (fun e => !isStarred e) = true) :
    SoundE prog w G mg mb X Γ d (.Call (.Name y p') [.Call (.Name x p) args [] pos] [] pos') (bListRange fl f a) := by
  intro B ae st res hB h ρ env s A hA hE S
  obtain ⟨p0, h0, h⟩ := bind2 h
  obtain ⟨p1, h1, h⟩ := bind2 h
  obtain ⟨p2, h2, h⟩ := bind2 h
  rw [eval_Call_Name]
  refine wpAny_bind (wpAny_mono (hl B ae st p0 hB h0 ρ env s A hA hE S) (fun v s0 k0 => ?_) fun _ _ e => e)
  obtain ⟨ρ0, e0, S0, v0⟩ := k0
  split at h
  · rename_i hp0 hp1
    obtain ⟨z, h3, h⟩ := bind2 h
    split at h
    · rename_i hsz
      cases h
      rw [hp0] at v0
      obtain rfl := v0
      refine callWith_base ?_
      show wpAny _ _ (evalArgs _ true [(false, _)] []) _ _ _
      refine Calls.evalArgs_plain (Calls.spliced_cons ?_)
      rw [eval_Call_Name]
      refine wpAny_bind (wpAny_mono (hf B ae _ p1 hB h1 ρ0 env s0 A hA (hE.mono e0) S0) (fun v s1 k1 => ?_) fun _ _ e => e)
      obtain ⟨ρ1, e1, S1, v1⟩ := k1
      rw [hp1] at v1
      obtain rfl := v1
      refine callWith_base (evalArgs_base (k := kNil) hB ha hst rfl h2 rfl hA (hE.mono (e0.trans e1)) S1 fun ρ2 vs kvs s2 e2 S2 v2 k2 => ?_)
      obtain rfl := k2.nil'
      refine ⟨keeper_typ, wpAny_mono (range_ok h3 v2 S2) (fun v s3 k3 => ?_) fun _ _ e => e⟩
      obtain ⟨S3, r, t, u, y', rfl, hr⟩ := k3
      obtain ⟨c1, c2⟩ := rngOf_ok h3
      refine Calls.spliced_nil ⟨keeper_typ, ?_⟩
      refine call_list_range (n := (Builtin.Range.rangeSize z.1 z.2.1 z.2.2).toNat) hA.handled hr c1 (Int.toNat_of_nonneg c2).symm (by omega) fun h' tk acc c hk hget hit => ?_
      have S4 := S3.alloc (h' := h') (tk := tk) (ao := .list ((rangeInts z.1 z.2.2 (Builtin.Range.rangeSize z.1 z.2.1 z.2.2).toNat 0).map .int)) hk (size_none _) hget ⟨acc.toList, c, by simp, by
        refine all2_of_get ?_ fun i x y hx hy => ?_
        · rw [List.length_map, rangeInts_len, Array.length_toList, hit.1]
        · have hy' : acc[i]? = some y := by simpa using hy
          obtain ⟨t', rfl⟩ := hit.2 i y hy'
          have hlt : i < (Builtin.Range.rangeSize z.1 z.2.1 z.2.2).toNat := by
            have := (Array.getElem?_eq_some_iff.mp hy').1
            rw [hit.1] at this; exact this
          rw [List.getElem?_map, rangeInts_get _ _ _ _ _ hlt] at hx
          cases hx
          exact ⟨t', by simp⟩⟩
      exact ⟨_, (e0.trans (e1.trans e2)).trans (List.prefix_append _ _), S4, _, by rw [← S3.len]; simp, rfl⟩
    · cases h
  · cases h
end
def bSet1 (c : Addr) (a : Act AV) : Act AV := fun ae st => if isCode ae.code c = true then (a ae (st ++ [.eset])).bind fun p => match p.1, p.2[st.length]? with
  | .int i, some .eset => some (.ref st.length, p.2.set st.length (.set1 i))
  | _, _ => .none
  else .none
def bDict0 : Act AV := fun _ st => some (.ref st.length, st ++ [.edict])
section
variable {prog : Program} {w : World} {G : List (Str × AV)} {mg mb : Str → Option Value} {X : Heap → List TabD → Prop} {Γ : Sc} {d : Nat}
theorem sound_dict0 {pos : Pos} : SoundE prog w G mg mb X Γ d (.Dict [] [] pos) bDict0 := by
  intro B ae st r hB h ρ env s A hA hE S
  cases h
  refine wpAny_Dict_empty ?_
  have S1 := S.push (tk := s.toks) (o := { cls := .type "dict", data := .dict #[] }) (ao := .edict) rfl rfl (hed := fun _ => Nat.ne_of_gt (low_of hB S))
  exact ⟨_, List.prefix_append _ _, S1, s.heap.objs.size, by rw [← S.len]; simp, rfl⟩
theorem codeAt_keeps {h h' : Heap} {c P : Addr} (x : CodeAt h c P) (hk : ∀ b o, h.get? b = some o → h'.get? b = some o) : CodeAt h' c P := by
  obtain ⟨o, vs, file, tf, flags, tg, inF, text, tt, h1, r⟩ := x
  exact ⟨o, vs, file, tf, flags, tg, inF, text, tt, hk _ _ h1, r⟩
theorem inMain_ok {c P : Addr} {env : Env} {A : Around} {s : Shared} {Q : Bool → Shared → Prop} (hc : env.code = .ref c) (hX : CodeAt s.heap c P) (h : ∀ b, Q b s) : wpAny (model prog w) A (inMainModule env) Q NoE s := by
  obtain ⟨o, vs, file, tf, _, _, _, _, _, h1, _, h2, _, _, h5, _⟩ := hX
  unfold inMainModule
  rw [hc]
  refine wpAny_bind (wpAny_fieldsOf h1 h2 ?_)
  rw [h5]
  exact wpAny_bind (wpAny_askSetting (wpAny_pure (h _)))
theorem sound_set1 {e : Expr} {a : Act AV} {pos : Pos} {c P : Addr} (hs : isStarred e = false) (hX : ∀ h tb, X h tb → CodeAt h c P) (h : SoundE prog w G mg mb X Γ d e a) : SoundE prog w G mg mb X Γ d (.Set [e] 0 pos) (bSet1 c a) := by
  intro B ae st r hB hr ρ env s A hA hE S
  unfold bSet1 at hr
  split at hr
  · rename_i hcode
    have hcode := isCode_ok hcode
    have henv : env.code = .ref c := by
      rcases hE.code with q | q
      · rw [q] at hcode; cases hcode
      · rw [q, hcode]
    have hCA : CodeAt s.heap c P := codeAt_keeps (hX _ _ hB.x) S.g
    obtain ⟨p, h1, hr⟩ := bind2 hr
    split at hr
    · rename_i i hp1 hp2
      cases hr
      show wpAny _ A (standAt pos >>= fun _ => _) _ _ s
      refine wpAny_bind (wpAny_standAt ?_)
      rw [starEach_cons hs]
      refine wpAny_bind (inMain_ok henv hCA fun main => ?_)
      have hro : displayRoad 0 [e] = .oneByOne := rfl
      rw [hro]
      unfold setDisplay
      show wpAny _ A (newSet (.type "set") >>= fun _ => _) _ _ s
      refine wpAny_bind (new_set fun led => ?_)
      have S1 := S.push (tk := s.toks) (o := { cls := .type "set", dict := none, data := .set #[] 0 (.fresh 0 0 led) }) (ao := .eset) rfl ⟨⟨rfl, rfl, rfl⟩, 0, _, rfl, rfl⟩
      have pre : ρ <+: ρ ++ [s.heap.objs.size] := List.prefix_append _ _
      have key : wpAny (model prog w) A (evalAll [do let v ← eval e env; standAt pos; pure v]) (fun vs s' => ∃ v, vs = [v] ∧ Post B (ρ ++ [s.heap.objs.size]) p v s') NoE { s with heap := s.heap.push { cls := .type "set", dict := none, data := .set #[] 0 (.fresh 0 0 led) } } := by
        refine wpAny_evalAll_cons (wpAny_bind (wpAny_mono (h B ae _ p hB h1 _ env _ A hA (hE.mono pre) S1) (fun v s2 k => ?_) fun _ _ e => e))
        exact wpAny_bind (wpAny_standAt (wpAny_pure (wpAny_evalAll_nil ⟨v, rfl, k⟩)))
      refine wpAny_bind (wpAny_holding (wpAny_bind (wpAny_mono key (fun vs s2 k => ?_) fun _ _ e => e)))
      obtain ⟨v, rfl, ρ2, e2, S2, hv⟩ := k
      rw [hp1] at hv
      obtain ⟨tk, rfl⟩ := hv
      have ha : ρ2[st.length]? = some s.heap.objs.size := pre_get e2 (by rw [← S.len]; simp)
      obtain ⟨o, ho, hex, ep, t, hd, hf⟩ := S2.obj _ _ _ ha hp2
      have fin : wpAny (model prog w) A (setAdd s.heap.objs.size (.int i tk)) (fun _ s' => Post B ρ (.ref st.length, p.2.set st.length (.set1 i)) (.ref s.heap.objs.size) s') NoE s2 := by
        refine add_one ho hex hd hf fun h' tk' o' hh tk2 ep' t' hsb ho' hex' hd' hf' => ?_
        have S3 := S2.update (tk := tk') (ao' := .set1 i) ha hp2 rfl (fun b x hb e => (hsb.2 b hb).trans e) ho' ⟨hex', hh, tk2, ep', t', hd', hf'⟩
        exact ⟨ρ2, pre.trans e2, S3, _, ha, rfl⟩
      refine wpAny_bind (wpAny_holding ?_)
      rw [List.forIn_cons]
      refine wpAny_bind (wpAny_bind (wpAny_bind (wpAny_mono fin (fun _ s3 k3 => wpAny_pure ?_) fun _ _ e => e)))
      dsimp only
      rw [List.forIn_nil]
      refine wpAny_pure ?_
      rw [if_neg (by decide)]
      refine wpAny_pure ?_
      exact wpAny_bind (wpAny_pure (wpAny_pure (wpAny_pure k3)))
    · cases hr
  · cases hr
end
structure Rt where
  G : List (Str × AV)
  c : CallF
  m : MethF
  ga : AV → Str → St → Option AV
  sa : AV → Str → AV → St → Option St
  codes : Str → Option (Addr × TabD)
  loops : Nat
def bAttr (ga : AV → Str → St → Option AV) (o : Act AV) (name : Str) : Act AV := fun ae st => (o ae st).bind fun p => (ga p.1 name p.2).bind fun v => some (v, p.2)
def gAttr (sa : AV → Str → AV → St → Option St) (o : Act AV) (name : Str) : TAct := fun v ae st => (o ae st).bind fun p => sa p.1 name v p.2
def constOf : Const → Option AV
  | .none => some .none
  | .bool b => some (.bool b)
  | .int i => some (.int i)
  | .str x => some (.str x)
  | _ => .none
def cName (R : Rt) (Γ : Sc) (x : Str) : Option (Act AV) :=
  if (x == ("__debug__" : Str)) = true ∨ (x == ("__classdict__" : Str)) = true then .none else
  match Γ.scope.names.lookup x with
  | some .local => if Γ.nm.contains x then some (bLoc Γ.nm (Γ.nm.idxOf x)) else .none
  | some .cell => if Γ.cn.contains x then some (bCell (Γ.cn.idxOf x)) else .none
  | some .free => if Γ.cn.contains x then some (bCell (Γ.cn.idxOf x)) else .none
  | some .globalImplicit => (R.G.lookup x).map bVal
  | _ => .none
def isName (e : Expr) (n : Str) : Bool := match e with
  | .Name x _ => x == n
  | _ => false
def setIter : Expr → Bool
  | .Set .. => true
  | _ => false
def kwOne (ks : List Keyword) : Option (Str × Expr) := match ks with
  | [⟨some n, e, _⟩] => some (n, e)
  | _ => .none
noncomputable section
mutual
def cE (R : Rt) : Nat → Sc → Expr → Option (Act AV)
  | 0, _, _ => .none
  | n + 1, Γ, e => match e with
    | .Constant c _ _ => (constOf c).map bVal
    | .Name x _ => cName R Γ x
    | .BinOp l op r _ => (cE R n Γ l).bind fun a => (cE R n Γ r).map fun b => bBin op a b
    | .UnaryOp op x _ => (cE R n Γ x).map fun a => bUn op a
    | .Compare l [op] [r] _ => if behindInMarks op r = false then (cE R n Γ l).bind fun a => (cE R n Γ r).map fun b => bCmp op a b else .none
    | .IfExp t x y _ => (cT R n Γ t).bind fun a => (cE R n Γ x).bind fun b => (cE R n Γ y).map fun c => bIte a b c
    | .BoolOp .And [x, y] _ => (cE R n Γ x).bind fun a => (cE R n Γ y).map fun b => bAnd a b
    | .BoolOp .Or [x, y] _ => (cE R n Γ x).bind fun a => (cE R n Γ y).map fun b => bOr a b
    | .Subscript x (.Slice lo hi .none _) _ => (cE R n Γ x).bind fun a => (cP R n Γ lo).bind fun b => (cP R n Γ hi).map fun c => bSlice a b c
    | .Subscript x i _ => (cE R n Γ x).bind fun a => (cE R n Γ i).map fun b => bItem a b
    | .List es _ => (cL R n Γ es).map bList
    | .Tuple es _ _ => (cL R n Γ es).map bTup
    | .Set [x] 0 _ => if isStarred x = false then (R.codes Γ.qual).bind fun cp => (cE R n Γ x).map fun a => bSet1 cp.1 a else .none
    | .Dict [] [] _ => some bDict0
    | .Attribute o name _ => if plainBase o = true ∧ isName o "self" = true then (cE R n Γ o).map fun a => bAttr R.ga a name else .none
    | .Call (.Name y _) args kws _ =>
      (match args, kws with
      | [.Call (.Name x _) args2 [] _], [] => if y = "list" ∧ x = "range" ∧ args2.all (fun e => !isStarred e) = true then
          (cName R Γ y).bind fun fl => (cName R Γ x).bind fun f => (cL R n Γ args2).map fun a => bListRange fl f a
        else (cName R Γ y).bind fun f => (cL R n Γ args).map fun a => bCall R.c f a kNil
      | _, [] => if args.all (fun e => !isStarred e) = true then (cName R Γ y).bind fun f => (cL R n Γ args).map fun a => bCall R.c f a kNil else .none
      | _, _ => .none)
    | .Call (.Attribute o name apos) args kws pos =>
      if args.all (fun e => !isStarred e) = true ∧ plainBase o = true ∧ (apos.endLine == pos.line) = true ∧ args.length < 20 then
        (cE R n Γ o).bind fun b => (cL R n Γ args).bind fun a => (match kws with
          | [] => some (bMeth R.c R.m b name a kNil)
          | _ => (kwOne kws).bind fun k => (cE R n Γ k.2).map fun v => bMeth R.c R.m b name a (kOne k.1 v))
      else .none
    | .ListComp elt gens scope pos => (cComp R n Γ elt gens scope).map bComp
    | _ => .none
def cP (R : Rt) : Nat → Sc → Option Expr → Option (Act AV)
  | 0, _, _ => .none
  | n + 1, Γ, e => match e with
    | .none => some (bVal .none)
    | some e => cE R n Γ e
def cT (R : Rt) : Nat → Sc → Expr → Option (Act Bool)
  | 0, _, _ => .none
  | n + 1, Γ, e => match e with
    | .UnaryOp .Not x _ => (cT R n Γ x).map tNot
    | .Compare l [op] [r] _ => if behindInMarks op r = false then (cE R n Γ l).bind fun a => (cE R n Γ r).map fun b => tCmp op a b else .none
    | .IfExp t x y _ => (cT R n Γ t).bind fun a => (cT R n Γ x).bind fun b => (cT R n Γ y).map fun c => tIte a b c
    | .BoolOp .And es _ => cAnd R n Γ es
    | .BoolOp .Or es _ => cOr' R n Γ es
    | .Name x p => if (x == ("__debug__" : Str)) = true then some (tVal (bVal (.bool true))) else (cE R n Γ (.Name x p)).map tVal
    | e => if plainTruth e = true then (cE R n Γ e).map tVal else .none
def cAnd (R : Rt) : Nat → Sc → List Expr → Option (Act Bool)
  | 0, _, _ => .none
  | n + 1, Γ, es => match es with
    | [] => some tTrue
    | e :: es => (cT R n Γ e).bind fun a => (cAnd R n Γ es).map fun b => tAnd a b
def cOr' (R : Rt) : Nat → Sc → List Expr → Option (Act Bool)
  | 0, _, _ => .none
  | n + 1, Γ, es => match es with
    | [] => some tFalse
    | e :: es => (cT R n Γ e).bind fun a => (cOr' R n Γ es).map fun b => tOr a b
def cL (R : Rt) : Nat → Sc → List Expr → Option (Act (List AV))
  | 0, _, _ => .none
  | n + 1, Γ, es => match es with
    | [] => some lNil
    | e :: es => if isStarred e = false then (cE R n Γ e).bind fun a => (cL R n Γ es).map fun b => lCons a b else .none
def cI (R : Rt) : Nat → Sc → Expr → Option (Act It)
  | 0, _, _ => .none
  | n + 1, Γ, e => match e with
    | .Call (.Name x _) args [] _ => if (x = "range" ∨ x = "reversed") ∧ args.all (fun e => !isStarred e) = true then (cName R Γ x).bind fun f => (cL R n Γ args).map fun a => iCall f a else (cE R n Γ e).map iList
    | e => (cE R n Γ e).map iList
def cTs (R : Rt) : Nat → Sc → List Expr → Option (List (Act Bool))
  | 0, _, _ => .none
  | n + 1, Γ, es => match es with
    | [] => some []
    | e :: es => (cT R n Γ e).bind fun a => (cTs R n Γ es).map fun b => a :: b
def cG (R : Rt) : Nat → Sc → Expr → Option TAct
  | 0, _, _ => .none
  | n + 1, Γ, e => match e with
    | .Name x _ => if okName Γ x = true then some (gName Γ x) else .none
    | .Subscript o i _ => (match i with
      | .Slice .. => .none
      | i => (cE R n Γ o).bind fun a => (cE R n Γ i).map fun b => gItem a b)
    | .Attribute o name _ => if plainBase o = true then (cE R n Γ o).map fun a => gAttr R.sa a name else .none
    | .Tuple ts _ _ => (cGs R n Γ ts).map gTup
    | _ => .none
def cGs (R : Rt) : Nat → Sc → List Expr → Option (List TAct)
  | 0, _, _ => .none
  | n + 1, Γ, es => match es with
    | [] => some []
    | e :: es => if isStarred e = false then (cG R n Γ e).bind fun a => (cGs R n Γ es).map fun b => a :: b else .none
def cComp (R : Rt) : Nat → Sc → Expr → List Comprehension → Scope → Option (Act Nat)
  | 0, _, _, _, _ => .none
  | n + 1, Γ, elt, gens, scope => if scope.kind = .function ∧ scope.names.all (fun y => y.2 != .cell) = true ∧ scope.names.all (fun y => y.2 != .local || scope.names.lookup y.1 == some .local) = true ∧ (freeOf scope).all (fun y => Γ.cn.contains y) = true then (match gens with
      | [⟨t, it, ifs, 0⟩] => if setIter it = false then (cI R n Γ it).bind fun src => (cG R n (compSc scope Γ) t).bind fun tt => (cTs R n (compSc scope Γ) ifs).bind fun ts => (cE R n (compSc scope Γ) elt).map fun a =>
          compRun src (localsOf scope) (selOf Γ scope) tt ts (emitApp a) else .none
      | [⟨t, it, ifs, 0⟩, ⟨t2, it2, ifs2, 0⟩] => if setIter it = false ∧ setIter it2 = false then (cI R n Γ it).bind fun src => (cG R n (compSc scope Γ) t).bind fun tt => (cTs R n (compSc scope Γ) ifs).bind fun ts =>
          (cI R n (compSc scope Γ) it2).bind fun src2 => (cG R n (compSc scope Γ) t2).bind fun tt2 => (cTs R n (compSc scope Γ) ifs2).bind fun ts2 => (cE R n (compSc scope Γ) elt).map fun a =>
          compRun src (localsOf scope) (selOf Γ scope) tt ts (fun acc => emitFor src2 tt2 ts2 (emitApp a acc)) else .none
      | _ => .none) else .none
end
def argsPlain (args : Arguments) : Bool := args.defaults.isEmpty && args.kw_defaults.isEmpty && args.kwonlyargs.isEmpty && args.posonlyargs.isEmpty && args.vararg.isNone && args.kwarg.isNone
mutual
def cX (R : Rt) : Nat → Sc → Stmt → Option (Act AFlow)
  | 0, _, _ => .none
  | n + 1, Γ, x => match x with
    | .Pass _ => some xPass
    | .Break _ => some xBrk
    | .Continue _ => some xCont
    | .Return .none _ => some xRet0
    | .Return (some e) _ => (cE R n Γ e).map xRet
    | .Expr e _ => if plainVal e = true then (cE R n Γ e).map xExpr else .none
    | .Assign [.Name y py] (.ListComp elt gens scope pos) spos =>
      if (Γ.scope.kind == .function) = true ∧ Γ.scope.names.lookup y = some .local ∧ (py.line == pos.line) = true ∧ (scope.names.any fun p => p.1 == y && (p.2 == .local || p.2 == .cell)) = false ∧ okName Γ y = true then
        (cComp R n Γ elt gens scope).map fun run => xAsgComp run (gName Γ y)
      else if Γ.scope.names.lookup y = some .cell ∧ okName Γ y = true then (cComp R n Γ elt gens scope).map fun run => xAsg (bComp run) [gName Γ y] else .none
    | .Assign ts e _ => if plainVal e = true ∧ notTuple e = true then (cE R n Γ e).bind fun a => (cGs R n Γ ts).map fun b => xAsg a b else .none
    | .AugAssign (.Name y _) op e _ => if Γ.scope.names.lookup y = some .local ∧ Γ.nm.contains y = true then (cE R n Γ e).map fun a => xAug op (bLoc Γ.nm (Γ.nm.idxOf y)) a (gLoc Γ.nm (Γ.nm.idxOf y)) else .none
    | .If t b o _ => (cT R n Γ t).bind fun a => (cXs R n Γ b).bind fun x => (cXs R n Γ o).map fun y => xIf a x y
    | .While t b o _ => (cT R n Γ t).bind fun a => (cXs R n Γ b).bind fun x => (cXs R n Γ o).map fun y => xWhile R.loops a x y
    | .For t it b o _ => if setIter it = false then (cI R n Γ it).bind fun src => (cG R n Γ t).bind fun tt => (cXs R n Γ b).bind fun x => (cXs R n Γ o).map fun y => xFor src tt x y else .none
    | .FunctionDef name args body [] .none [] scope .none bind pos =>
      if bind = name ∧ argsPlain args = true ∧ docOf body = .none ∧ (freeOf scope).all (fun y => Γ.cn.contains y) = true ∧ okName Γ name = true ∧ args.args.all (fun a => a.annotation.isNone) = true then
        (R.codes Γ.qual).bind fun cp => if 0 < cp.2.line ∧ cp.2.line = pos.line ∧ cp.2.col = pos.col ∧ cp.2.q = Γ.qual ++ name then some (xDef cp.1 cp.2.P args body scope (Γ.qual ++ name) (selOf Γ scope) (gName Γ name)) else .none else .none
    | _ => some xFail
def cXs (R : Rt) : Nat → Sc → List Stmt → Option (Act AFlow)
  | 0, _, _ => .none
  | n + 1, Γ, xs => match xs with
    | [] => some xPass
    | x :: xs => (cXs R n Γ xs).map fun b => xSeq ((cX R n Γ x).getD xFail) b
end
end
section
variable {prog : Program} {w : World} {mg mb : Str → Option Value} {X : Heap → List TabD → Prop} {Γ : Sc} {d n : Nat} {R : Rt}
structure SoundRt (prog : Program) (w : World) (mg mb : Str → Option Value) (X : Heap → List TabD → Prop) (d : Nat) (R : Rt) : Prop where
  c : SoundC prog w R.G mg mb X d R.c
  m : SoundM prog w R.G mg mb X d R.m
  ga : ∀ (B : Base) (x : AV) (name : Str) (st : St) (v : AV), GoodB R.G mg mb X B → R.ga x name st = some v → ∀ (ρ : List Addr) (xv : Value) (s : Shared) (A : Around), Room A d → VR ρ x xv → SR B ρ st s →
    wpAny (model prog w) A (getAttr xv name true) (fun r s' => SR B ρ st s' ∧ VR ρ v r) NoE s
  sa : ∀ (B : Base) (x : AV) (name : Str) (v : AV) (st st' : St), GoodB R.G mg mb X B → R.sa x name v st = some st' → ∀ (ρ : List Addr) (xv vv : Value) (s : Shared) (A : Around), Room A d → VR ρ x xv → VR ρ v vv → SR B ρ st s →
    wpAny (model prog w) A (setAttr xv name vv) (PostU B ρ st') NoE s
  codes : ∀ q cp, R.codes q = some cp → ∀ h tb, X h tb → CodeAt h cp.1 cp.2.P ∧ (0 < cp.2.line → cp.2 ∈ tb ∧ ∀ t' ∈ tb, t'.P = cp.2.P → t' = cp.2)
  bm : ∀ h tb, X h tb → Bmod h mg
theorem setIter_ok {e : Expr} (h : setIter e = false) (env : Env) (x : Value) : foldedSetIterable e env x = pure x := by
  cases e <;> first | rfl | cases h
theorem sound_cname {x : Str} {pos : Pos} {a : Act AV} (h : cName R Γ x = some a) : SoundE prog w R.G mg mb X Γ d (.Name x pos) a := by
  unfold cName at h
  split at h
  · cases h
  · rename_i hd
    have hd1 : (x == ("__debug__" : Str)) = false := by
      cases e : (x == ("__debug__" : Str)) with
      | false => rfl
      | true => exact (hd (.inl e)).elim
    have hd2 : (x == ("__classdict__" : Str)) = false := by
      cases e : (x == ("__classdict__" : Str)) with
      | false => rfl
      | true => exact (hd (.inr e)).elim
    split at h
    · rename_i hl
      split at h
      · rename_i hm; cases h; exact sound_loc hl (by simpa using hm) hd1
      · cases h
    · rename_i hl
      split at h
      · rename_i hm; cases h; exact sound_cell (.inl hl) (by simpa using hm) hd1 hd2
      · cases h
    · rename_i hl
      split at h
      · rename_i hm; cases h; exact sound_cell (.inr hl) (by simpa using hm) hd1 hd2
      · cases h
    · rename_i hl
      obtain ⟨v, h1, h2⟩ := Option.map_eq_some_iff.mp h
      subst h2
      exact sound_glob hl h1 hd1
    · cases h
theorem isName_ok {e : Expr} {n : Str} (h : isName e n = true) : ∃ x p, e = .Name x p := by
  cases e <;> first | exact ⟨_, _, rfl⟩ | cases h
theorem sound_attr {o : Expr} {name : Str} {pos : Pos} {a : Act AV} (hR : SoundRt prog w mg mb X d R) (hb : plainBase o = true) (hn : isName o "self" = true) (ho : SoundE prog w R.G mg mb X Γ d o a) : SoundE prog w R.G mg mb X Γ d (.Attribute o name pos) (bAttr R.ga a name) := by
  intro B ae st r hB h ρ env s A hA hE S
  obtain ⟨p, h1, h⟩ := bind2 h
  obtain ⟨v, h2, h⟩ := bind2 h
  cases h
  rw [arm_eval_Attribute, attributeBase_plain hb]
  refine wpAny_bind (wpAny_mono (ho B ae st p hB h1 ρ env s A hA hE S) (fun xv s1 ⟨ρ1, e1, S1, v1⟩ => ?_) fun _ _ e => e)
  refine wpAny_bind (wpAny_standAt (wpAny_bind (wpAny_holding (wpAny_mono (hR.ga B p.1 name p.2 v hB h2 ρ1 xv s1 A hA v1 S1) (fun r s2 ⟨S2, v2⟩ => ?_) fun _ _ e => e))))
  obtain ⟨x, px, rfl⟩ := isName_ok hn
  refine wpAny_bind (m := letTemporaryGo (.Name x px) xv r) (wpAny_of_eq (a := ()) rfl ?_)
  exact wpAny_pure ⟨ρ1, e1, S2, v2⟩
theorem sound_gattr {o : Expr} {name : Str} {pos : Pos} {a : Act AV} (hR : SoundRt prog w mg mb X d R) (ho : SoundE prog w R.G mg mb X Γ d o a) : SoundG prog w R.G mg mb X Γ d (.Attribute o name pos) (gAttr R.sa a name) := by
  intro B v ae st st' hB h ρ env s A v' hA hE hv S
  obtain ⟨p, h1, h⟩ := bind2 h
  rw [arm_assign_Attribute]
  refine wpAny_bind (wpAny_holding (wpAny_mono (ho B ae st p hB h1 ρ env s A hA hE S) (fun xv s1 ⟨ρ1, e1, S1, v1⟩ => ?_) fun _ _ e => e))
  refine wpAny_bind (wpAny_standAt (wpAny_bind (wpAny_holding (wpAny_mono (hR.sa B p.1 name v p.2 st' hB h ρ1 xv v' s1 A hA v1 (hv.mono e1) S1) (fun u s2 ⟨ρ2, e2, S2⟩ => ?_) fun _ _ e => e))))
  exact fun Γ' p' _ => by rw [Sem.wp_release]; exact ⟨ρ2, e1.trans e2, S2⟩
theorem debug_true {x : Str} {p : Pos} (h : (x == ("__debug__" : Str)) = true) : SoundE prog w R.G mg mb X Γ d (.Name x p) (bVal (.bool true)) := by
  intro B ae st r hB hr ρ env s A hA hE S
  cases hr
  have e1 : eval (.Name x p) env = (do standAt p; rule "name.__debug__"; pure (.bool true)) := by
    show (do standAt p; if x == ("__debug__" : Str) then debugConstant else loadName env x) = _
    rw [if_pos h]; rfl
  rw [e1]
  exact wpAny_bind (wpAny_standAt (wpAny_bind (wpAny_rule (wpAny_pure (Post.here S rfl)))))
structure CompSound (prog : Program) (w : World) (mg mb : Str → Option Value) (X : Heap → List TabD → Prop) (R : Rt) (d : Nat) (Γ : Sc) (elt : Expr) (gens : List Comprehension) (scope : Scope) (run : Act Nat) : Prop where
  e : ∀ pos, SoundE prog w R.G mg mb X Γ d (.ListComp elt gens scope pos) (bComp run)
  x : ∀ y py pos spos tx, (∀ env : Env, env.scope = Γ.scope → swapsWith (.ListComp elt gens scope pos) (some (.Name y py)) spos.line env = pure true) → SoundG prog w R.G mg mb X Γ d (.Name y py) tx →
    SoundX prog w R.G mg mb X Γ d (.Assign [.Name y py] (.ListComp elt gens scope pos) spos) (xAsgComp run tx)
structure All (prog : Program) (w : World) (mg mb : Str → Option Value) (X : Heap → List TabD → Prop) (R : Rt) (d n : Nat) : Prop where
  e : ∀ Γ e a, cE R n Γ e = some a → SoundE prog w R.G mg mb X Γ d e a
  p : ∀ Γ e a, cP R n Γ e = some a → SP prog w R.G mg mb X Γ d e a
  t : ∀ Γ e a, cT R n Γ e = some a → SoundT prog w R.G mg mb X Γ d e a
  and : ∀ Γ es a, cAnd R n Γ es = some a → ST2 prog w R.G mg mb X Γ d .And es a
  or : ∀ Γ es a, cOr' R n Γ es = some a → ST2 prog w R.G mg mb X Γ d .Or es a
  l : ∀ Γ es a, cL R n Γ es = some a → SL prog w R.G mg mb X Γ d es a
  i : ∀ Γ e a, cI R n Γ e = some a → SoundI prog w R.G mg mb X Γ d e a
  ts : ∀ Γ es a, cTs R n Γ es = some a → STs prog w R.G mg mb X Γ d es a
  g : ∀ Γ e a, cG R n Γ e = some a → SoundG prog w R.G mg mb X Γ d e a
  gs : ∀ Γ es a, cGs R n Γ es = some a → SGs prog w R.G mg mb X Γ d es a
  comp : ∀ Γ elt gens scope a, cComp R n Γ elt gens scope = some a → CompSound prog w mg mb X R d Γ elt gens scope a
theorem all_zero : All prog w mg mb X R d 0 := by
  constructor <;> (intros; rename_i h; first | (unfold cE at h; cases h; done) | (unfold cP at h; cases h; done) | (unfold cT at h; cases h; done) | (unfold cAnd at h; cases h; done) | (unfold cOr' at h; cases h; done) | (unfold cL at h; cases h; done) | (unfold cI at h; cases h; done) | (unfold cTs at h; cases h; done) | (unfold cG at h; cases h; done) | (unfold cGs at h; cases h; done) | (unfold cComp at h; cases h; done))
theorem map2 {α β : Type} {x : Option α} {f : α → β} {r : β} (h : x.map f = some r) : ∃ a, x = some a ∧ f a = r := Option.map_eq_some_iff.mp h
theorem step_small (ih : All prog w mg mb X R d n) :
    (∀ Γ e a, cP R (n + 1) Γ e = some a → SP prog w R.G mg mb X Γ d e a) ∧ (∀ Γ es a, cAnd R (n + 1) Γ es = some a → ST2 prog w R.G mg mb X Γ d .And es a) ∧ (∀ Γ es a, cOr' R (n + 1) Γ es = some a → ST2 prog w R.G mg mb X Γ d .Or es a) ∧
    (∀ Γ es a, cL R (n + 1) Γ es = some a → SL prog w R.G mg mb X Γ d es a) ∧ (∀ Γ es a, cTs R (n + 1) Γ es = some a → STs prog w R.G mg mb X Γ d es a) ∧ (∀ Γ es a, cGs R (n + 1) Γ es = some a → SGs prog w R.G mg mb X Γ d es a) := by
  refine ⟨fun Γ e a h => ?_, fun Γ es a h => ?_, fun Γ es a h => ?_, fun Γ es a h => ?_, fun Γ es a h => ?_, fun Γ es a h => ?_⟩
  · unfold cP at h
    cases e with
    | none => cases h; exact rfl
    | some e => exact ih.e Γ e a h
  · unfold cAnd at h
    cases es with
    | nil => cases h; exact fun pos => sound_tand_nil
    | cons e es =>
      obtain ⟨b, h1, h⟩ := bind2 h
      obtain ⟨c, h2, h⟩ := map2 h
      subst h
      exact sound_tand (ih.t _ _ _ h1) (ih.and _ _ _ h2)
  · unfold cOr' at h
    cases es with
    | nil => cases h; exact fun pos => sound_tor_nil
    | cons e es =>
      obtain ⟨b, h1, h⟩ := bind2 h
      obtain ⟨c, h2, h⟩ := map2 h
      subst h
      exact sound_tor (ih.t _ _ _ h1) (ih.or _ _ _ h2)
  · unfold cL at h
    cases es with
    | nil => cases h; exact sl_nil
    | cons e es =>
      simp only at h
      split at h
      · rename_i hs
        obtain ⟨b, h1, h⟩ := bind2 h
        obtain ⟨c, h2, h⟩ := map2 h
        subst h
        exact sl_cons (ih.e _ _ _ h1) (ih.l _ _ _ h2) hs
      · cases h
  · unfold cTs at h
    cases es with
    | nil => cases h; exact .nil
    | cons e es =>
      obtain ⟨b, h1, h⟩ := bind2 h
      obtain ⟨c, h2, h⟩ := map2 h
      subst h
      exact .cons (ih.t _ _ _ h1) (ih.ts _ _ _ h2)
  · unfold cGs at h
    cases es with
    | nil => cases h; exact .nil
    | cons e es =>
      simp only at h
      split at h
      · rename_i hs
        obtain ⟨b, h1, h⟩ := bind2 h
        obtain ⟨c, h2, h⟩ := map2 h
        subst h
        exact .cons hs (ih.g _ _ _ h1) (ih.gs _ _ _ h2)
      · cases h
theorem step_i (ih : All prog w mg mb X R d n) (Γ : Sc) (e : Expr) (a : Act It) (h : cI R (n + 1) Γ e = some a) : SoundI prog w R.G mg mb X Γ d e a := by
  unfold cI at h
  split at h
  · split at h
    · rename_i hc
      obtain ⟨f, h1, h⟩ := bind2 h
      obtain ⟨b, h2, h⟩ := map2 h
      subst h
      exact sound_icall (sound_cname h1) (ih.l _ _ _ h2) hc.2
    · obtain ⟨b, h2, h⟩ := map2 h
      subst h
      exact sound_ilist (ih.e _ _ _ h2)
  · obtain ⟨b, h2, h⟩ := map2 h
    subst h
    exact sound_ilist (ih.e _ _ _ h2)
theorem step_g (hR : SoundRt prog w mg mb X d R) (ih : All prog w mg mb X R d n) (Γ : Sc) (e : Expr) (a : TAct) (h : cG R (n + 1) Γ e = some a) : SoundG prog w R.G mg mb X Γ d e a := by
  unfold cG at h
  split at h
  · split at h
    · rename_i hc; cases h; exact (sstore_name hc).g
    · cases h
  · split at h
    · cases h
    · obtain ⟨b, h1, h⟩ := bind2 h
      obtain ⟨c, h2, h⟩ := map2 h
      subst h
      exact sound_gitem (ih.e _ _ _ h1) (ih.e _ _ _ h2)
  · split at h
    · obtain ⟨b, h1, h⟩ := map2 h
      subst h
      exact sound_gattr hR (ih.e _ _ _ h1)
    · cases h
  · obtain ⟨b, h1, h⟩ := map2 h
    subst h
    exact sound_gtup (ih.gs _ _ _ h1)
  · cases h
theorem step_t (ih : All prog w mg mb X R d n) (Γ : Sc) (e : Expr) (a : Act Bool) (h : cT R (n + 1) Γ e = some a) : SoundT prog w R.G mg mb X Γ d e a := by
  unfold cT at h
  split at h
  · obtain ⟨b, h1, h⟩ := map2 h
    subst h
    exact sound_tnot (ih.t _ _ _ h1)
  · split at h
    · rename_i hm
      obtain ⟨b, h1, h⟩ := bind2 h
      obtain ⟨c, h2, h⟩ := map2 h
      subst h
      exact sound_tcmp (ih.e _ _ _ h1) (ih.e _ _ _ h2) hm
    · cases h
  · obtain ⟨b, h1, h⟩ := bind2 h
    obtain ⟨c, h2, h⟩ := bind2 h
    obtain ⟨c', h3, h⟩ := map2 h
    subst h
    exact sound_tite (ih.t _ _ _ h1) (ih.t _ _ _ h2) (ih.t _ _ _ h3)
  · exact ih.and _ _ _ h _
  · exact ih.or _ _ _ h _
  · split at h
    · rename_i hd
      cases h
      exact sound_tval (debug_true hd) rfl
    · obtain ⟨b, h1, h⟩ := map2 h
      subst h
      exact sound_tval (ih.e _ _ _ h1) rfl
  · split at h
    · rename_i hp
      obtain ⟨b, h1, h⟩ := map2 h
      subst h
      exact sound_tval (ih.e _ _ _ h1) hp
    · cases h
end
section
variable {prog : Program} {w : World} {mg mb : Str → Option Value} {X : Heap → List TabD → Prop} {Γ : Sc} {d n : Nat} {R : Rt}
theorem sound_constOf {c : Const} {k : Nat} {pos : Pos} {v : AV} (h : constOf c = some v) : SoundE prog w R.G mg mb X Γ d (.Constant c k pos) (bVal v) := by
  refine sound_const ?_
  cases c <;> exact h
theorem kwOne_ok {ks : List Keyword} {k : Str × Expr} (h : kwOne ks = some k) : ∃ p, ks = [⟨some k.1, k.2, p⟩] := by
  unfold kwOne at h
  split at h
  · cases h; exact ⟨_, rfl⟩
  · cases h
theorem step_call (hR : SoundRt prog w mg mb X d R) (ih : All prog w mg mb X R d n) {y : Str} {p pos : Pos} {args : List Expr} {a : Act AV} (hst : args.all (fun e => !isStarred e) = true) (h : ((cName R Γ y).bind fun f => (cL R n Γ args).map fun a => bCall R.c f a kNil) = some a) :
    SoundE prog w R.G mg mb X Γ d (.Call (.Name y p) args [] pos) a := by
  obtain ⟨f, h1, h⟩ := bind2 h
  obtain ⟨b, h2, h⟩ := map2 h
  subst h
  exact sound_call hR.c (sound_cname h1) (ih.l _ _ _ h2) hst rfl
set_option maxHeartbeats 1000000 in
theorem step_e (hR : SoundRt prog w mg mb X d R) (ih : All prog w mg mb X R d n) (Γ : Sc) (e : Expr) (a : Act AV) (h : cE R (n + 1) Γ e = some a) : SoundE prog w R.G mg mb X Γ d e a := by
  unfold cE at h
  split at h
  · obtain ⟨v, h1, h⟩ := map2 h
    subst h
    exact sound_constOf h1
  · exact sound_cname h
  · obtain ⟨b, h1, h⟩ := bind2 h
    obtain ⟨c, h2, h⟩ := map2 h
    subst h
    exact sound_bin (ih.e _ _ _ h1) (ih.e _ _ _ h2)
  · obtain ⟨b, h1, h⟩ := map2 h
    subst h
    exact sound_un (ih.e _ _ _ h1)
  · split at h
    · rename_i hm
      obtain ⟨b, h1, h⟩ := bind2 h
      obtain ⟨c, h2, h⟩ := map2 h
      subst h
      exact sound_cmp (ih.e _ _ _ h1) (ih.e _ _ _ h2) hm
    · cases h
  · obtain ⟨b, h1, h⟩ := bind2 h
    obtain ⟨c, h2, h⟩ := bind2 h
    obtain ⟨c', h3, h⟩ := map2 h
    subst h
    exact sound_ite (ih.t _ _ _ h1) (ih.e _ _ _ h2) (ih.e _ _ _ h3)
  · obtain ⟨b, h1, h⟩ := bind2 h
    obtain ⟨c, h2, h⟩ := map2 h
    subst h
    exact sound_and2 (ih.e _ _ _ h1) (ih.e _ _ _ h2)
  · obtain ⟨b, h1, h⟩ := bind2 h
    obtain ⟨c, h2, h⟩ := map2 h
    subst h
    exact sound_or2 (ih.e _ _ _ h1) (ih.e _ _ _ h2)
  · obtain ⟨b, h1, h⟩ := bind2 h
    obtain ⟨c, h2, h⟩ := bind2 h
    obtain ⟨c', h3, h⟩ := map2 h
    subst h
    exact sound_slice (ih.e _ _ _ h1) (ih.p _ _ _ h2) (ih.p _ _ _ h3)
  · obtain ⟨b, h1, h⟩ := bind2 h
    obtain ⟨c, h2, h⟩ := map2 h
    subst h
    exact sound_item (ih.e _ _ _ h1) (ih.e _ _ _ h2)
  · obtain ⟨b, h1, h⟩ := map2 h
    subst h
    exact sound_list (ih.l _ _ _ h1)
  · obtain ⟨b, h1, h⟩ := map2 h
    subst h
    exact sound_tup (ih.l _ _ _ h1)
  · split at h
    · rename_i hst
      obtain ⟨cp, h1, h⟩ := bind2 h
      obtain ⟨b, h2, h⟩ := map2 h
      subst h
      exact sound_set1 hst (fun hh tb hx => (hR.codes _ _ h1 hh tb hx).1) (ih.e _ _ _ h2)
    · cases h
  · cases h; exact sound_dict0
  · split at h
    · rename_i hc
      obtain ⟨b, h1, h⟩ := map2 h
      subst h
      exact sound_attr hR hc.1 hc.2 (ih.e _ _ _ h1)
    · cases h
  · split at h
    · split at h
      · rename_i hc
        obtain ⟨fl, h1, h⟩ := bind2 h
        obtain ⟨f, h2, h⟩ := bind2 h
        obtain ⟨b, h3, h⟩ := map2 h
        subst h
        exact sound_listRange (sound_cname h1) (sound_cname h2) (ih.l _ _ _ h3) hc.2.2
      · exact step_call hR ih rfl h
    · split at h
      · rename_i hst
        exact step_call hR ih hst h
      · cases h
    · cases h
  · split at h
    · rename_i hc
      obtain ⟨b, h1, h⟩ := bind2 h
      obtain ⟨c, h2, h⟩ := bind2 h
      split at h
      · cases h
        exact sound_meth hR.c hR.m (ih.e _ _ _ h1) (ih.l _ _ _ h2) hc.1 rfl hc.2.1 hc.2.2.1 hc.2.2.2
      · obtain ⟨k, h3, h⟩ := bind2 h
        obtain ⟨v, h4, h⟩ := map2 h
        subst h
        obtain ⟨kp, rfl⟩ := kwOne_ok h3
        exact sound_meth hR.c hR.m (ih.e _ _ _ h1) (ih.l _ _ _ h2) hc.1 ⟨v, rfl, ih.e _ _ _ h4⟩ hc.2.1 hc.2.2.1 hc.2.2.2
    · cases h
  · obtain ⟨b, h1, h⟩ := map2 h
    subst h
    exact (ih.comp _ _ _ _ _ h1).e _
  · cases h
theorem compOk_of {scope : Scope} (h : scope.kind = .function ∧ scope.names.all (fun y => y.2 != .cell) = true ∧ scope.names.all (fun y => y.2 != .local || scope.names.lookup y.1 == some .local) = true ∧ (freeOf scope).all (fun y => Γ.cn.contains y) = true) : CompOk Γ scope := by
  obtain ⟨h1, h2, h3, h4⟩ := h
  refine ⟨h1, fun y hy => ?_, fun y hy hl => ?_, fun y hy => ?_⟩
  · have := List.all_eq_true.mp h2 y hy
    simpa using this
  · have := List.all_eq_true.mp h3 y hy
    rw [hl] at this
    simpa using this
  · have := List.all_eq_true.mp h4 y hy
    simpa using this
set_option maxHeartbeats 1000000 in
theorem step_comp (ih : All prog w mg mb X R d n) (Γ : Sc) (elt : Expr) (gens : List Comprehension) (scope : Scope) (a : Act Nat) (h : cComp R (n + 1) Γ elt gens scope = some a) : CompSound prog w mg mb X R d Γ elt gens scope a := by
  unfold cComp at h
  split at h
  · rename_i hok
    have ok := compOk_of hok
    split at h
    · split at h
      · rename_i hs
        obtain ⟨src, h1, h⟩ := bind2 h
        obtain ⟨tt, h2, h⟩ := bind2 h
        obtain ⟨ts, h3, h⟩ := bind2 h
        obtain ⟨b, h4, h⟩ := map2 h
        subst h
        exact ⟨fun pos => sound_comp ok (fun env x => setIter_ok hs env x) (ih.i _ _ _ h1) (ih.g _ _ _ h2) (ih.ts _ _ _ h3) fun acc => sound_emitApp rfl (ih.e _ _ _ h4),
          fun y py pos spos tx hsw htx => sound_asgcomp hsw htx ok (fun env x => setIter_ok hs env x) (ih.i _ _ _ h1) (ih.g _ _ _ h2) (ih.ts _ _ _ h3) fun acc => sound_emitApp rfl (ih.e _ _ _ h4)⟩
      · cases h
    · rename_i t it ifs t2 it2 ifs2
      split at h
      · rename_i hs
        obtain ⟨src, h1, h⟩ := bind2 h
        obtain ⟨tt, h2, h⟩ := bind2 h
        obtain ⟨ts, h3, h⟩ := bind2 h
        obtain ⟨src2, h5, h⟩ := bind2 h
        obtain ⟨tt2, h6, h⟩ := bind2 h
        obtain ⟨ts2, h7, h⟩ := bind2 h
        obtain ⟨b, h4, h⟩ := map2 h
        subst h
        have em : ∀ (pos : Pos) (acc : Nat), SoundM' prog w R.G mg mb X (compSc scope Γ) d elt [⟨t, it, ifs, 0⟩, ⟨t2, it2, ifs2, 0⟩] scope pos 0 acc (emitFor src2 tt2 ts2 (emitApp b acc)) := fun pos acc =>
          sound_emitFor rfl (fun env x => setIter_ok hs.2 env x) (ih.i _ _ _ h5) (ih.g _ _ _ h6) (ih.ts _ _ _ h7) (sound_emitApp rfl (ih.e _ _ _ h4))
        exact ⟨fun pos => sound_comp ok (fun env x => setIter_ok hs.1 env x) (ih.i _ _ _ h1) (ih.g _ _ _ h2) (ih.ts _ _ _ h3) (em pos),
          fun y py pos spos tx hsw htx => sound_asgcomp hsw htx ok (fun env x => setIter_ok hs.1 env x) (ih.i _ _ _ h1) (ih.g _ _ _ h2) (ih.ts _ _ _ h3) (em pos)⟩
      · cases h
    · cases h
  · cases h
theorem all_ok (hR : SoundRt prog w mg mb X d R) : ∀ n, All prog w mg mb X R d n
  | 0 => all_zero
  | n + 1 => by
    have ih := all_ok hR n
    obtain ⟨a1, a2, a3, a4, a5, a6⟩ := step_small ih
    exact ⟨step_e hR ih, a1, step_t ih, a2, a3, a4, step_i ih, a5, step_g hR ih, a6, step_comp ih⟩
theorem annTrees_nil {args : Arguments} (h : argsPlain args = true) (ha : args.args.all (fun a => a.annotation.isNone) = true) (env : Env) : annTrees args none env = [] := by
  obtain ⟨po, as, va, ko, kd, kwa, df⟩ := args
  simp only [argsPlain, Bool.and_eq_true, List.isEmpty_iff, Option.isNone_iff_eq_none] at h
  obtain ⟨⟨⟨⟨⟨h1, h2⟩, h3⟩, h4⟩, h5⟩, h6⟩ := h
  subst h1 h2 h3 h4 h5 h6
  unfold annTrees
  simp only at ha
  have : ∀ (l : List Arg), l.all (fun a => a.annotation.isNone) = true → annotationsOf l env = [] := by
    intro l hl
    induction l with
    | nil => rfl
    | cons x l ih =>
      rw [List.all_cons, Bool.and_eq_true] at hl
      obtain ⟨nm, an, ps⟩ := x
      have : an = none := by simpa using hl.1
      subst this
      exact ih hl.2
  simp [this as ha]
  rfl
end
section
variable {prog : Program} {w : World} {mg mb : Str → Option Value} {X : Heap → List TabD → Prop} {Γ : Sc} {d n : Nat} {R : Rt}
theorem swaps_yes {Γ : Sc} {y : Str} {py pos : Pos} {elt : Expr} {gens : List Comprehension} {scope : Scope} {n : Nat} (h1 : (Γ.scope.kind == .function) = true) (h2 : Γ.scope.names.lookup y = some .local) (h3 : (py.line == pos.line) = true)
    (h4 : (scope.names.any fun p => p.1 == y && (p.2 == .local || p.2 == .cell)) = false) (env : Env) (he : env.scope = Γ.scope) : swapsWith (.ListComp elt gens scope pos) (some (.Name y py)) n env = pure true := by
  have hk : Γ.scope.kind = .function := by simpa using h1
  have hb : env.blockKind = .function := by unfold Env.blockKind; rw [he, hk]; rfl
  have hko : env.kindOf y = some .local := by unfold Env.kindOf; rw [he]; exact h2
  unfold swapsWith
  show (pure (env.blockKind == .function && env.kindOf y == some .local && py.line == pos.line && !(scope.names.any fun p => p.1 == y && (p.2 == .local || p.2 == .cell))) : Sem Bool) = _
  rw [hb, hko, h3, h4]
  rfl
theorem swaps_cell {Γ : Sc} {y : Str} {py pos : Pos} {elt : Expr} {gens : List Comprehension} {scope : Scope} {n : Nat} (h2 : Γ.scope.names.lookup y = some .cell) (env : Env) (he : env.scope = Γ.scope) : swapsWithSole [.Name y py] (.ListComp elt gens scope pos) n env = pure false := by
  have hko : env.kindOf y = some .cell := by unfold Env.kindOf; rw [he]; exact h2
  show swapsWith (.ListComp elt gens scope pos) (some (.Name y py)) n env = _
  unfold swapsWith
  show (pure (env.blockKind == .function && env.kindOf y == some .local && py.line == pos.line && !(scope.names.any fun p => p.1 == y && (p.2 == .local || p.2 == .cell))) : Sem Bool) = _
  rw [hko]
  have : (some NameKind.cell == some NameKind.local) = false := rfl
  rw [this, Bool.and_false, Bool.false_and, Bool.false_and]
theorem okName_ne {Γ : Sc} {x : Str} (h : okName Γ x = true) : Γ.scope.names.lookup x ≠ some .globalExplicit := fun e => by
  unfold okName at h
  rw [e] at h
  simp at h
structure AllX (prog : Program) (w : World) (mg mb : Str → Option Value) (X : Heap → List TabD → Prop) (R : Rt) (d n : Nat) : Prop where
  x : ∀ Γ e a, cX R n Γ e = some a → SoundX prog w R.G mg mb X Γ d e a
  xs : ∀ Γ e a, cXs R n Γ e = some a → SoundXs prog w R.G mg mb X Γ d e a
set_option maxHeartbeats 1000000 in
theorem step_x (hR : SoundRt prog w mg mb X d R) (ih : AllX prog w mg mb X R d n) (Γ : Sc) (e : Stmt) (a : Act AFlow) (h : cX R (n + 1) Γ e = some a) : SoundX prog w R.G mg mb X Γ d e a := by
  have ie := all_ok hR n
  unfold cX at h
  split at h
  · cases h; exact sound_pass
  · cases h; exact sound_brk
  · cases h; exact sound_cont
  · cases h; exact sound_ret0
  · obtain ⟨b, h1, h⟩ := map2 h
    subst h
    exact sound_ret (ie.e _ _ _ h1)
  · split at h
    · rename_i hp
      obtain ⟨b, h1, h⟩ := map2 h
      subst h
      exact sound_expr hp (ie.e _ _ _ h1)
    · cases h
  · split at h
    · rename_i hc
      obtain ⟨b, h1, h⟩ := map2 h
      subst h
      exact (ie.comp _ _ _ _ _ h1).x _ _ _ _ _ (fun env he => swaps_yes hc.1 hc.2.1 hc.2.2.1 hc.2.2.2.1 env he) (sstore_name hc.2.2.2.2).g
    · split at h
      · rename_i hc
        obtain ⟨b, h1, h⟩ := map2 h
        subst h
        exact sound_asg' (fun env he n => swaps_cell hc.1 env he) rfl ((ie.comp _ _ _ _ _ h1).e _) (.cons rfl (sstore_name hc.2).g .nil)
      · cases h
  · split at h
    · rename_i hc
      obtain ⟨b, h1, h⟩ := bind2 h
      obtain ⟨c, h2, h⟩ := map2 h
      subst h
      exact sound_asg hc.1 hc.2 (ie.e _ _ _ h1) (ie.gs _ _ _ h2)
    · cases h
  · split at h
    · rename_i hc
      obtain ⟨b, h1, h⟩ := map2 h
      subst h
      exact sound_aug (load_loc hc.1 (by simpa using hc.2)) (ie.e _ _ _ h1) (sstore_loc hc.1 (by simpa using hc.2))
    · cases h
  · obtain ⟨b, h1, h⟩ := bind2 h
    obtain ⟨c, h2, h⟩ := bind2 h
    obtain ⟨c', h3, h⟩ := map2 h
    subst h
    exact sound_if (ie.t _ _ _ h1) (ih.xs _ _ _ h2) (ih.xs _ _ _ h3)
  · obtain ⟨b, h1, h⟩ := bind2 h
    obtain ⟨c, h2, h⟩ := bind2 h
    obtain ⟨c', h3, h⟩ := map2 h
    subst h
    exact sound_while (ie.t _ _ _ h1) (ih.xs _ _ _ h2) (ih.xs _ _ _ h3)
  · split at h
    · rename_i hs
      obtain ⟨src, h1, h⟩ := bind2 h
      obtain ⟨tt, h2, h⟩ := bind2 h
      obtain ⟨c, h3, h⟩ := bind2 h
      obtain ⟨c', h4, h⟩ := map2 h
      subst h
      exact sound_for (fun env x => setIter_ok hs env x) (ie.i _ _ _ h1) (ie.g _ _ _ h2) (ih.xs _ _ _ h3) (ih.xs _ _ _ h4)
    · cases h
  · split at h
    · rename_i hc
      obtain ⟨cp, h1, h⟩ := bind2 h
      obtain ⟨hbn, hpl, hdoc, hfr, hok, hann⟩ := hc
      subst hbn
      have hp := hpl
      simp only [argsPlain, Bool.and_eq_true, List.isEmpty_iff, Option.isNone_iff_eq_none] at hp
      split at h
      · rename_i hcp
        cases h
        exact sound_def (annTrees_nil hpl hann) hp.1.1.1.1.1 hp.1.1.1.1.2 hp.1.1.1.2 hdoc (fun h tb hx => ⟨(hR.codes _ _ h1 h tb hx).1, (hR.codes _ _ h1 h tb hx).2 hcp.1⟩) hcp.2.1 hcp.2.2.1 hcp.2.2.2 hR.bm (fun y hy => by have := List.all_eq_true.mp hfr y hy; simpa using this) (sstore_name hok) (okName_ne hok)
      · cases h
    · cases h
  · cases h; exact sound_fail
theorem step_xs (ih : AllX prog w mg mb X R d n) (Γ : Sc) (es : List Stmt) (a : Act AFlow) (h : cXs R (n + 1) Γ es = some a) : SoundXs prog w R.G mg mb X Γ d es a := by
  unfold cXs at h
  cases es with
  | nil => cases h; exact sound_xnil
  | cons e es =>
    obtain ⟨c, h2, h⟩ := map2 h
    subst h
    refine sound_xcons ?_ (ih.xs _ _ _ h2)
    cases h1 : cX R n Γ e with
    | none => exact sound_fail
    | some a => exact ih.x _ _ _ h1
theorem allX (hR : SoundRt prog w mg mb X d R) : ∀ n, AllX prog w mg mb X R d n
  | 0 => ⟨fun Γ e a h => (by unfold cX at h; cases h), fun Γ e a h => (by unfold cXs at h; cases h)⟩
  | n + 1 => ⟨step_x hR (allX hR n), step_xs (allX hR n)⟩
end
def AV.refs : AV → List Nat
  | .ref k => [k]
  | _ => []
def AO.refs : AO → List Nat
  | .list xs => xs.flatMap AV.refs
  | .rlist xs => xs.flatMap AV.refs
  | .tup xs => xs.flatMap AV.refs
  | .ns _ m => m.flatMap fun p => match p with | some v => v.refs | .none => []
  | .cell v => match v with | some v => v.refs | .none => []
  | .fn _ _ _ _ cl _ => cl.map (·.2)
  | .inst _ d => [d]
  | .edict => []
  | .dview d => [d]
  | .eset => []
  | .set1 _ => []
  | .any => []
def reach (st : St) : Nat → List Nat → List Nat → List Nat
  | 0, _, acc => acc
  | _ + 1, [], acc => acc
  | n + 1, k :: todo, acc => if acc.contains k = true then reach st n todo acc else reach st n (todo ++ ((st[k]?).getD .any).refs) (acc ++ [k])
def isFnO : AO → Bool
  | .fn _ _ _ _ _ _ => true
  | _ => false
def noFn (keep : List Nat) (st : St) : Bool := (List.range st.length).all fun i => keep.contains i || !(isFnO ((st[i]?).getD .any))
structure Fi where
  body : List Stmt
  scope : Scope
  qual : Str
  code : Value
  bind : List AV → List (Str × AV) → St → Option (List (Str × AV) × St)
def fnOk (scope : Scope) (cl : List Str) : Bool := (scope.kind == .function) && !scope.isCoroutine && !scope.isGenerator && decide (ownOf scope).Nodup && cl.all (fun x => !(ownOf scope).contains x)
def bindPlain (names : List Str) (args : List AV) (kw : List (Str × AV)) : Option (List (Str × AV)) := match kw with
  | [] => if args.length = names.length ∧ names.Nodup then some (names.zip args) else .none
  | _ => .none
def bPlain (names : List Str) (args : List AV) (kw : List (Str × AV)) (st : St) : Option (List (Str × AV) × St) := (bindPlain names args kw).map fun b => (b, st)
def bDef (names : List Str) (dv : AV) (args : List AV) (kw : List (Str × AV)) (st : St) : Option (List (Str × AV) × St) := match kw with
  | [] => if args.length = names.length ∧ names.Nodup then some (names.zip args, st) else if args.length + 1 = names.length ∧ names.Nodup then some (names.zip (args ++ [dv]), st) else .none
  | _ => .none
def bKw (names : List Str) (k : Str) (args : List AV) (kw : List (Str × AV)) (st : St) : Option (List (Str × AV) × St) := match kw with
  | [(k', c)] => if k' = k ∧ k ∉ names ∧ args.length = names.length ∧ names.Nodup then some (names.zip args ++ [(k, c)], st) else .none
  | _ => .none
def bStar (names : List Str) (a : Str) (args : List AV) (kw : List (Str × AV)) (st : St) : Option (List (Str × AV) × St) := match kw with
  | [] => if args.length = names.length ∧ names.Nodup then some (names.zip args ++ [(a, .ref st.length)], st ++ [.edict]) else .none
  | _ => .none
noncomputable def runFn (R : Rt) (fuel : Nat) (body : List Stmt) (scope : Scope) (qual : Str) (cl : List (Str × Nat)) (code : Value) (binds : List (Str × AV)) (st : St) : Option (AFlow × St) :=
  if fnOk scope (cl.map (·.1)) = true ∧ binds.all (fun p => okName (fnSc scope (cl.map (·.1)) (qual ++ ".<locals>.") R.G) p.1) = true then
    (cXs R fuel (fnSc scope (cl.map (·.1)) (qual ++ ".<locals>.") R.G) body).bind fun act =>
    (bindAll (fnSc scope (cl.map (·.1)) (qual ++ ".<locals>.") R.G) binds (envA scope (cl.map (·.2)) code st.length) (st ++ frameOf scope)).bind fun st1 => act (envA scope (cl.map (·.2)) code st.length) st1
  else .none
noncomputable def smallRun (R : Rt) (fuel : Nat) (infos : Addr → Option Fi) (f : AV) (args : List AV) (kw : List (Str × AV)) (st : St) : Option (AFlow × St) := match f with
  | .old a => (infos a).bind fun fi => (fi.bind args kw st).bind fun bs => runFn R fuel fi.body fi.scope fi.qual [] fi.code bs.1 bs.2
  | .ref k => (match st[k]? with
    | some (.fn ps body scope qual cl _) => if argsPlain ps = true then (bindPlain (ps.args.map (·.arg)) args kw).bind fun binds => runFn R fuel body scope qual cl .none binds st else .none
    | _ => .none)
  | _ => .none
def renK (g : Nat → Nat) (kw : List (Str × AV)) : List (Str × AV) := kw.map fun p => (p.1, p.2.ren g)
def inK (keep : List Nat) (v : AV) : Bool := v.allr fun j : Nat => keep.contains j
def framed (run : AV → List AV → List (Str × AV) → St → Option (AFlow × St)) : CallF := fun f args kw st =>
  let keep := reach st 100000 (f.refs ++ args.flatMap AV.refs ++ kw.flatMap fun p => p.2.refs) []
  if noFn keep st = true ∧ inK keep f = true ∧ args.all (inK keep) = true ∧ kw.all (fun p => inK keep p.2) = true then
    (sub keep st).bind fun st0 => (run (f.ren keep.idxOf) (args.map (AV.ren keep.idxOf)) (renK keep.idxOf kw) st0).bind fun r =>
      let v := retOf r.1
      let keep2 := reach r.2 100000 (List.range keep.length ++ v.refs) []
      if keep2.take keep.length = List.range keep.length ∧ inK keep2 v = true then
        (sub keep2 r.2).bind fun st2 => if st2.all (fun ao => !ao.isRO) = true then some ((v.ren keep2.idxOf).ren (emb keep st.length), embed keep st st2) else .none
      else .none
  else .none
section
variable {prog : Program} {w : World} {mg mb : Str → Option Value} {X : Heap → List TabD → Prop} {Γ : Sc} {d n : Nat} {R : Rt} {A : Around} {s : Shared} {B : Base} {ρ : List Addr} {st : St}
def SoundSmall (prog : Program) (w : World) (G : List (Str × AV)) (mg mb : Str → Option Value) (X : Heap → List TabD → Prop) (d : Nat) (run : AV → List AV → List (Str × AV) → St → Option (AFlow × St)) : Prop :=
  ∀ (B : Base) (f : AV) (args : List AV) (kw : List (Str × AV)) (st : St) (r : AFlow × St), GoodB G mg mb X B → run f args kw st = some r →
    ∀ (ρ : List Addr) (fv : Value) (vs : List Value) (kvs : List (Str × Value)) (s : Shared) (A : Around), Room A d → VR ρ f fv → All2 (VR ρ) args vs → KwR ρ kw kvs → SR B ρ st s →
      KeeperOk prog w A fv s ∧ codeAny (model prog w) A (.call fv ⟨vs, kvs⟩) (fun x s' => match x with | .ok (.ret v) => ∃ ρ', ρ <+: ρ' ∧ SR B ρ' r.2 s' ∧ VR ρ' (retOf r.1) v | .ok _ => False | .error _ => False) s
theorem SoundCC.c {G : List (Str × AV)} {c : CallF} (h : SoundCC prog w G mg mb X d c) : SoundC prog w G mg mb X d c := fun B f args kw st r hB hr ρ fv vs kvs s A hA hf ha hk S =>
  let ⟨a, b⟩ := h B f args kw st r hB hr ρ fv vs kvs s A hA hf ha hk S
  ⟨a, wpAny_call b⟩
theorem fnOk_ok {scope : Scope} {cl : List Str} (h : fnOk scope cl = true) : FnOk scope cl := by
  simp only [fnOk, Bool.and_eq_true, Bool.not_eq_true', decide_eq_true_eq] at h
  obtain ⟨⟨⟨⟨h1, h2⟩, h3⟩, h4⟩, h5⟩ := h
  refine ⟨by simpa using h1, h2, h3, h4, fun x hx => ?_⟩
  have := List.all_eq_true.mp h5 x hx
  simpa using this
def BindOk (h : Heap) (fd : FuncData) (bind : List AV → List (Str × AV) → St → Option (List (Str × AV) × St)) : Prop := ∀ args kw st bs, bind args kw st = some bs → ∀ (prog : Program) (w : World) (A : Around) (B : Base) (ρ : List Addr) (vs : List Value) (kvs : List (Str × Value)) (s : Shared), (∀ b o, h.get? b = some o → s.heap.get? b = some o) → sysModules < s.heap.objs.size → All2 (VR ρ) args vs → KwR ρ kw kvs → SR B ρ st s →
  wpAny (model prog w) A (bindArgs fd ⟨vs, kvs⟩) (fun bv s' => ∃ ρ', ρ <+: ρ' ∧ SR B ρ' bs.2 s' ∧ KwR ρ' bs.1 bv) NoE s
def FnAt (h : Heap) (a : Addr) (fi : Fi) : Prop := ∃ o fd, h.get? a = some o ∧ o.data = .func fd ∧ fd.body = .stmts fi.body ∧ fd.scope = fi.scope ∧ fd.qualname = fi.qual ∧ fd.globals = mainGlobals ∧ fd.builtins = builtinsNs ∧ fd.closure = [] ∧ h.CodeRec fd.code fi.qual ∧
  (fi.code = .none ∨ fd.code = fi.code) ∧ BindOk h fd fi.bind
theorem zipKw {names : List Str} : ∀ {args : List AV} {vs : List Value}, All2 (VR ρ) args vs → KwR ρ (names.zip args) (names.zip vs) := by
  unfold KwR
  induction names with
  | nil => intro args vs h; exact .nil
  | cons n names ih =>
    intro args vs h
    cases h with
    | nil => exact .nil
    | cons x r => exact .cons ⟨rfl, x⟩ (ih r)
theorem bindPlain_ok {h : Heap} {fd : FuncData} {names : List Str} (h1 : fd.params.posonlyargs = []) (h2 : fd.params.args.map (·.arg) = names) (h3 : fd.params.kwonlyargs = []) (h4 : fd.params.vararg = none) (h5 : fd.params.kwarg = none) (hd : fd.defaults = .none ∨ ∃ T o items n, fd.defaults = .ref T ∧ h.get? T = some o ∧ o.data = .seq items n) : BindOk h fd (bPlain names) := by
  intro args kw st bs hb0 prog w A B ρ vs kvs s hh hbig ha hk S
  unfold bPlain at hb0
  obtain ⟨b, hb, e⟩ := Option.map_eq_some_iff.mp hb0
  subst e
  clear hb0
  unfold bindPlain at hb
  split at hb
  · split at hb
    · rename_i hc
      cases hb
      obtain rfl := hk.nil'
      have hl : vs.length = names.length := by rw [← ha.length]; exact hc.1
      rcases hd with hd | ⟨T, o, items, n, hd, ho, hdat⟩
      · rw [bind_plain h1 h2 h3 h4 h5 hd hl hc.2]
        exact wpAny_pure ⟨ρ, List.prefix_refl _, S, zipKw ha⟩
      · exact bind_given h1 h2 h3 h4 h5 hd (hh _ _ ho) hdat hl hc.2 ⟨ρ, List.prefix_refl _, S, zipKw ha⟩
    · cases hb
  · cases hb
theorem bDef_ok {h : Heap} {fd : FuncData} {names : List Str} {dv : AV} {v : Value} {T : Addr} {o : Obj} {n : Nat} (h1 : fd.params.posonlyargs = []) (h2 : fd.params.args.map (·.arg) = names) (h3 : fd.params.kwonlyargs = []) (h4 : fd.params.vararg = none) (h5 : fd.params.kwarg = none) (hd : fd.defaults = .ref T) (ho : h.get? T = some o) (hdat : o.data = .seq #[v] n) (hv : VR [] dv v) : BindOk h fd (bDef names dv) := by
  intro args kw st bs hb prog w A B ρ vs kvs s hh hbig ha hk S
  unfold bDef at hb
  split at hb
  · obtain rfl := hk.nil'
    have len := ha.length
    split at hb
    · rename_i hc
      cases hb
      exact bind_given h1 h2 h3 h4 h5 hd (hh _ _ ho) hdat (by rw [← len]; exact hc.1) hc.2 ⟨ρ, List.prefix_refl _, S, zipKw ha⟩
    · split at hb
      · rename_i hc
        cases hb
        obtain ⟨ns, x, rfl⟩ : ∃ ns x, names = ns ++ [x] := by
          rcases List.eq_nil_or_concat names with e | ⟨ns, x, e⟩
          · rw [e] at hc; simp at hc
          · exact ⟨ns, x, by rw [e, List.concat_eq_append]⟩
        refine bind_def h1 h2 h3 h4 h5 hd (hh _ _ ho) hdat (by simp at hc; omega) hc.2 ⟨ρ, List.prefix_refl _, S, zipKw (ha.append (.cons (hv.any ρ) .nil))⟩
      · cases hb
  · cases hb
theorem bKw_ok {h : Heap} {fd : FuncData} {names : List Str} {k : Str} (h1 : fd.params.posonlyargs = []) (h2 : fd.params.args.map (·.arg) = names) (h3 : fd.params.kwonlyargs.map (·.arg) = [k]) (h4 : fd.params.vararg = none) (h5 : fd.params.kwarg = none) (hd : fd.defaults = .none) : BindOk h fd (bKw names k) := by
  intro args kw st bs hb prog w A B ρ vs kvs s hh hbig ha hk S
  unfold bKw at hb
  split at hb
  · rename_i k' c
    split at hb
    · rename_i hc
      obtain ⟨rfl, hkn, hlen, hnd⟩ := hc
      cases hb
      unfold KwR at hk
      cases hk with
      | cons x r =>
        cases r
        rename_i q
        obtain ⟨k2, cv⟩ := q
        obtain ⟨e, hv⟩ := x
        simp only at e
        subst e
        rw [bind_kw1 h1 h2 h3 h4 h5 hd (by rw [← ha.length]; exact hlen) hnd hkn]
        exact wpAny_pure ⟨ρ, List.prefix_refl _, S, (zipKw ha).append (.cons ⟨rfl, hv⟩ .nil)⟩
    · cases hb
  · cases hb
theorem bStar_ok {h : Heap} {fd : FuncData} {names : List Str} {ka : Arg} (h1 : fd.params.posonlyargs = []) (h2 : fd.params.args.map (·.arg) = names) (h3 : fd.params.kwonlyargs = []) (h4 : fd.params.vararg = none) (h5 : fd.params.kwarg = some ka) (hd : fd.defaults = .none) : BindOk h fd (bStar names ka.arg) := by
  intro args kw st bs hb prog w A B ρ vs kvs s hh hbig ha hk S
  unfold bStar at hb
  split at hb
  · split at hb
    · rename_i hc
      cases hb
      obtain rfl := hk.nil'
      have S1 := S.push (tk := s.toks) (o := { cls := .type "dict", data := .dict #[] }) (ao := .edict) rfl rfl (hed := fun _ => Nat.ne_of_gt hbig)
      have pre : ρ <+: ρ ++ [s.heap.objs.size] := List.prefix_append _ _
      refine bind_star h1 h2 h3 h4 h5 hd (by rw [← ha.length]; exact hc.1) hc.2 ⟨_, pre, S1, (zipKw (ha.mono fun _ _ => VR.mono pre)).append (.cons ⟨rfl, s.heap.objs.size, ?_, rfl⟩ .nil)⟩
      rw [← S.len]; simp
    · cases hb
  · cases hb
theorem keeper_fn {a : Addr} {o : Obj} {fd : FuncData} (ho : s.heap.get? a = some o) (hd : o.data = .func fd) : KeeperOk prog w A (.ref a) s := fun Q h => by
  unfold keeperOf
  refine wpAny_bind (wpAny_load ho ?_)
  rw [hd]
  exact wpAny_pure (h _)
theorem sound_small {fuel : Nat} {infos : Addr → Option Fi} (hR : SoundRt prog w mg mb X d R) (hin : ∀ a fi, infos a = some fi → ∀ h tb, X h tb → FnAt h a fi) : SoundSmall prog w R.G mg mb X (d + 1) (smallRun R fuel infos) := by
  intro B f args kw st r hB h ρ fv vs kvs s A hA hf hargs hkw S
  have hbig := low_of hB S
  unfold smallRun at h
  split at h
  · rename_i a
    obtain rfl := hf
    obtain ⟨fi, h1, h⟩ := bind2 h
    obtain ⟨bs, h2, h⟩ := bind2 h
    obtain ⟨o, fd, p1, p2, p3, p4, p5, p6, p7, p8, p9, p10, p11⟩ := hin a fi h1 B.g B.tabs hB.x
    unfold runFn at h
    split at h
    · rename_i hc
      obtain ⟨act, h3, h⟩ := bind2 h
      obtain ⟨st1, h4, h⟩ := bind2 h
      have ho := S.g a o p1
      exact ⟨keeper_fn ho p2, code_fn (cl := []) (cs := []) ho p2 p3 p4 p5 p6 p7 p8 (p9.keeps S.g) p10 (fnOk_ok hc.1) (fun A' => p11 args kw st bs h2 prog w A' B ρ vs kvs s S.g hbig hargs hkw S) hB .nil hc.2 ((allX hR fuel).xs _ _ _ h3) h4 h hA⟩
    · cases h
  · rename_i k
    obtain ⟨a, ha, rfl⟩ := hf
    split at h
    · rename_i ps body scope qual cl code hst
      split at h
      · rename_i hp
        obtain ⟨binds, h2, h⟩ := bind2 h
        unfold runFn at h
        split at h
        · rename_i hc
          obtain ⟨act, h3, h⟩ := bind2 h
          obtain ⟨st1, h4, h⟩ := bind2 h
          obtain ⟨o, ho, hor⟩ := S.obj _ _ _ ha hst
          obtain ⟨fd, cs, a0, a00, a1, a2, a3, a4, a5, a6, a7, a8, a9, a10, a11⟩ := hor
          obtain ⟨o', fd', c, t, e1, e2, e3, e4, e5, e6, e7⟩ := S.fns _ _ _ _ _ _ _ _ ha hst
          rw [ho] at e1
          cases e1
          rw [a1] at e2
          cases e2
          have hcode : s.heap.CodeRec fd.code qual := by
            rcases (S.tab t e4).st with q | ⟨c2, q, hq⟩
            · rw [e5, e7] at q
              have := congrArg (fun o : Option Obj => match o with | some ⟨_, _, .fields vs, _⟩ => vs.size | _ => 0) q
              simp at this
            · rw [e5, e7] at q
              have : c = c2 := by
                have := congrArg (fun o : Option Obj => match o with | some ⟨_, _, .fields vs, _⟩ => vs[2]? | _ => none) q
                simpa using this
              subst this
              rw [e3, ← e6]; exact hq
          have hp' := hp
          simp only [argsPlain, Bool.and_eq_true, List.isEmpty_iff, Option.isNone_iff_eq_none] at hp'
          obtain ⟨⟨⟨⟨⟨q1, q2⟩, q3⟩, q4⟩, q5⟩, q6⟩ := hp'
          have hbd := bindPlain_ok (h := s.heap) (fd := fd) (names := ps.args.map (·.arg)) (by rw [a2]; exact q4) (by rw [a2]) (by rw [a2]; exact q3) (by rw [a2]; exact q5) (by rw [a2]; exact q6) (.inl a10) args kw st (binds, st) (by unfold bPlain; rw [h2]; rfl)
          exact ⟨keeper_fn ho a1, code_fn ho a1 a3 a4 a5 a6 a7 a8 hcode (.inl rfl) (fnOk_ok hc.1) (fun A' => hbd prog w A' B ρ vs kvs s (fun _ _ e => e) hbig hargs hkw S) hB a9 hc.2 ((allX hR fuel).xs _ _ _ h3) h4 h hA⟩
        · cases h
      · cases h
    · cases h
  · cases h
end
def codeRecIn (K : Frag) (v : Value) (q : Str) : Bool := match v with
  | .ref c => (match K.lookup c with
    | some ⟨_, _, .fields vs, _⟩ => (match (vs[1]? : Option Value) with | some (.str q' _) => q' == q | _ => false)
    | _ => false)
  | _ => false
theorem codeRecIn_ok {K : Frag} {h : Heap} {v : Value} {q : Str} (X : K.In h) (e : codeRecIn K v q = true) : h.CodeRec v q := by
  unfold codeRecIn at e
  split at e
  · rename_i c
    split at e
    · rename_i vs _ hl
      split at e
      · rename_i q' t hv
        have : q' = q := by simpa using e
        subst this
        exact ⟨c, _, vs, t, rfl, X _ _ hl, rfl, hv⟩
      · cases e
    · cases e
  · cases e
def isNoneV : Value → Bool
  | .none => true
  | _ => false
def seqIn (K : Frag) (v : Value) : Bool := match v with
  | .ref T => (match K.lookup T with
    | some ⟨_, _, .seq _ _, _⟩ => true
    | _ => false)
  | _ => false
def default1 (K : Frag) (v : Value) : Option AV := match v with
  | .ref T => (match K.lookup T with
    | some ⟨_, _, .seq items _, _⟩ => (match items.toList with
      | [.none] => some .none
      | [.bool b] => some (.bool b)
      | _ => .none)
    | _ => .none)
  | _ => .none
theorem default1_ok {K : Frag} {v : Value} {dv : AV} (e : default1 K v = some dv) : ∃ T o x n, v = .ref T ∧ K.lookup T = some o ∧ o.data = .seq #[x] n ∧ VR [] dv x := by
  unfold default1 at e
  split at e
  · rename_i T
    split at e
    · rename_i items n _ hl
      obtain ⟨items⟩ := items
      split at e
      · rename_i hi
        cases e
        simp only at hi
        subst hi
        exact ⟨T, _, .none, n, rfl, hl, rfl, rfl⟩
      · rename_i b hi
        cases e
        simp only at hi
        subst hi
        exact ⟨T, _, .bool b, n, rfl, hl, rfl, rfl⟩
      · cases e
    · cases e
  · cases e
def binderOf (K : Frag) (fd : FuncData) : Option (List AV → List (Str × AV) → St → Option (List (Str × AV) × St)) :=
  if fd.params.posonlyargs.isEmpty = true ∧ fd.params.vararg.isNone = true then (match fd.params.kwonlyargs, fd.params.kwarg with
    | [], .none => match default1 K fd.defaults with | some dv => some (bDef (fd.params.args.map (·.arg)) dv) | .none => if (isNoneV fd.defaults || seqIn K fd.defaults) = true then some (bPlain (fd.params.args.map (·.arg))) else .none
    | [k], .none => if isNoneV fd.defaults = true then some (bKw (fd.params.args.map (·.arg)) k.arg) else .none
    | [], some a => if isNoneV fd.defaults = true then some (bStar (fd.params.args.map (·.arg)) a.arg) else .none
    | _, _ => .none) else .none
def fiOf (K : Frag) (a : Addr) : Option Fi := match K.lookup a with
  | some ⟨_, _, .func fd, _⟩ => (match fd.body with
    | .stmts b => if fd.globals = mainGlobals ∧ fd.builtins = builtinsNs ∧ fd.closure.isEmpty = true ∧ codeRecIn K fd.code fd.qualname = true then
        (binderOf K fd).map fun bind => { body := b, scope := fd.scope, qual := fd.qualname, code := fd.code, bind := bind } else .none
    | _ => .none)
  | _ => .none
theorem isNoneV_ok {v : Value} (h : isNoneV v = true) : v = .none := by
  cases v <;> first | rfl | cases h
theorem binderOf_ok {K : Frag} {h : Heap} (X : K.In h) {fd : FuncData} {bind} (e : binderOf K fd = some bind) : BindOk h fd bind := by
  unfold binderOf at e
  split at e
  · rename_i hc
    have h1 : fd.params.posonlyargs = [] := List.isEmpty_iff.mp hc.1
    have h4 : fd.params.vararg = none := Option.isNone_iff_eq_none.mp hc.2
    split at e
    · rename_i hk ha
      split at e
      · rename_i dv hdv
        cases e
        obtain ⟨T, o, x, n, d1, d2, d3, d4⟩ := default1_ok hdv
        exact bDef_ok h1 rfl hk h4 ha d1 (X _ _ d2) d3 d4
      split at e
      · rename_i hd
        cases e
        refine bindPlain_ok h1 rfl hk h4 ha ?_
        rcases Bool.or_eq_true .. ▸ hd with hd | hd
        · exact .inl (isNoneV_ok hd)
        · right
          unfold seqIn at hd
          split at hd
          · rename_i T hT
            split at hd
            · rename_i l; exact ⟨T, _, _, _, hT, X _ _ l, rfl⟩
            · cases hd
          · cases hd
      · cases e
    · rename_i k hk ha
      split at e
      · rename_i hd; cases e; exact bKw_ok h1 rfl (by rw [hk]; rfl) h4 ha (isNoneV_ok hd)
      · cases e
    · rename_i a hk ha
      split at e
      · rename_i hd; cases e; exact bStar_ok h1 rfl hk h4 ha (isNoneV_ok hd)
      · cases e
    · cases e
  · cases e
theorem fiOf_ok {K : Frag} {h : Heap} (X : K.In h) {a : Addr} {fi : Fi} (e : fiOf K a = some fi) : FnAt h a fi := by
  unfold fiOf at e
  split at e
  · rename_i fd _ hl
    split at e
    · rename_i b hb
      split at e
      · rename_i hc
        obtain ⟨h3, h4, h5, h6⟩ := hc
        obtain ⟨bind, hbd, e⟩ := Option.map_eq_some_iff.mp e
        subst e
        exact ⟨_, fd, X _ _ hl, rfl, hb, rfl, rfl, h3, h4, List.isEmpty_iff.mp h5, codeRecIn_ok X h6, .inr rfl, binderOf_ok X hbd⟩
      · cases e
    · cases e
  · cases e
structure Tbl where
  G : List (Str × AV)
  infos : Addr → Option Fi
  codes : Str → Option (Addr × TabD)
  m : MethF
  ga : AV → Str → St → Option AV
  sa : AV → Str → AV → St → Option St
  ext : CallF → CallF
  more : CallF
  fuel : Nat
  loops : Nat
def blts : CallF := cOr cLen (cOr cStrI (cOr cIntS (cOr cType (cOr cMin (cOr cSum (cOr cSorted (cOr cDivmod (cOr cStrM cListM))))))))
def isBlt : AV → Bool
  | .blt _ => true
  | .typ _ => true
  | _ => false
def cSel (a b : CallF) : CallF := fun f args kw st => if isBlt f = true then a f args kw st else b f args kw st
noncomputable def tw (T : Tbl) : Nat → CallF × CallF
  | 0 => (fun _ _ _ _ => .none, cSel (cOr blts T.more) fun _ _ _ _ => .none)
  | d + 1 => (framed (smallRun ⟨T.G, (tw T d).2, T.m, T.ga, T.sa, T.codes, T.loops⟩ T.fuel T.infos), cSel (cOr blts T.more) (cOr (framed (smallRun ⟨T.G, (tw T d).2, T.m, T.ga, T.sa, T.codes, T.loops⟩ T.fuel T.infos)) (T.ext (tw T d).1)))
section
variable {prog : Program} {w : World} {G : List (Str × AV)} {mg mb : Str → Option Value} {X : Heap → List TabD → Prop} {d n : Nat} {T : Tbl}
theorem SoundC.le {c : CallF} {d d' : Nat} (h : SoundC prog w G mg mb X d c) (hd : d ≤ d') : SoundC prog w G mg mb X d' c :=
  fun B f args kw st r hB hr ρ fv vs kvs s A hA hf ha hk S => h B f args kw st r hB hr ρ fv vs kvs s A (hA.le hd) hf ha hk S
theorem sound_blts : SoundC prog w G mg mb X d blts :=
  sound_cor sound_len (sound_cor sound_stri (sound_cor sound_ints (sound_cor sound_type (sound_cor sound_min (sound_cor sound_sum (sound_cor sound_sorted (sound_cor sound_divmod (sound_cor sound_cstr sound_clist))))))))
end
def plainCls (K : Frag) (C : Addr) : Bool := findIn K (.ref C) "__getattribute__" == some (some (.builtin "object.__getattribute__")) && findIn K (.ref C) "__getattr__" == some none && (clsIn K C).any (·.hasDict)
def notBlt : AV → Bool
  | .blt _ => false
  | _ => true
def gaK (K : Frag) : AV → Str → St → Option AV := fun x name st => match x with
  | .ref k => (match st[k]? with
    | some (.inst C d) => if plainCls K C = true ∧ (findIn K (.ref C) name == some none) = true then (match st[d]? with
      | some (.ns nm m) => if nm.contains name = true then (m.getD (nm.idxOf name) .none).bind fun v => if notBlt v = true then some v else .none else .none
      | _ => .none) else .none
    | _ => .none)
  | _ => .none
def noShadow (nm : List Str) (m : List (Option AV)) (name : Str) : Bool := nm.contains name && (m.getD (nm.idxOf name) .none).isNone
def mInst (K : Frag) : MethF := fun x name st => match x with
  | .ref k => (match st[k]? with
    | some (.inst C d) => if plainCls K C = true then (match st[d]? with
      | some (.ns nm m) => if noShadow nm m name = true then (match findIn K (.ref C) name with
        | some (some (.ref f)) => if (typeIn K (.ref f) == some (.type "function")) = true then some (.old f, [.ref k]) else .none
        | _ => .none) else .none
      | _ => .none) else .none
    | _ => .none)
  | _ => .none
theorem lookIn_ns {o : Obj} {es : Array DictEntry} {ep : Nat} {name : Str} {r : Option Value} (hd : o.data = .dict es ep) (hk : StrKeys es) (h : nsFind es name = r) : lookIn name o = some r := by
  unfold lookIn
  rw [hd]
  dsimp only
  unfold nsFind findBy at h
  have e1 : es.find? (fun e => e.key.isStr name) = es.toList.find? (fun e => e.key.isStr name) := by simp
  rw [e1] at h
  cases hf : es.toList.find? (fun e => e.key.isStr name) with
  | some e => rw [hf] at h; simp at h; rw [← h]
  | none =>
    rw [hf] at h
    simp only [Option.map_none] at h
    have : es.toList.any (·.refKey) = false := by
      rw [List.any_eq_false]
      intro e he
      obtain ⟨n, t, hn⟩ := hk e (by simpa using he)
      simp [DictEntry.refKey, hn]
    rw [this, ← h]
    simp
section
variable {prog : Program} {w : World} {G : List (Str × AV)} {mg mb : Str → Option Value} {X : Heap → List TabD → Prop} {d : Nat} {A : Around} {s : Shared} {B : Base} {ρ : List Addr} {st : St} {K : Frag}
theorem SR.inst (S : SR B ρ st s) {k C dd : Nat} {x : Addr} {nm : List Str} {m : List (Option AV)} (hx : ρ[k]? = some x) (h1 : st[k]? = some (.inst C dd)) (h2 : st[dd]? = some (.ns nm m)) :
    ∃ ox dx od mm, InstAt s.heap x ox C (some od) ∧ ox.dict = some dx ∧ ρ[dd]? = some dx ∧ s.heap.get? dx = some od ∧ s.heap.Ns dx mm ∧ m.length = nm.length ∧ (∀ y, y ∈ nm → OptR (VR ρ) (m.getD (nm.idxOf y) .none) (mm y)) ∧ ∀ y, lookIn y od = some (mm y) := by
  obtain ⟨ox, hox, dx, hdx, rfl⟩ := S.obj _ _ _ hx h1
  obtain ⟨od, hod, hor⟩ := S.obj _ _ _ hdx h2
  obtain ⟨es, ep, e, kk, l, q⟩ := hor
  exact ⟨_, dx, od, nsFind es, ⟨hox, rfl, rfl, hod⟩, rfl, hdx, hod, ⟨od, es, ep, hod, e, kk, fun _ => rfl⟩, l, q, fun y => lookIn_ns e kk rfl⟩
theorem plainCls_ok {C : Addr} (h : plainCls K C = true) : findIn K (.ref C) "__getattribute__" = some (some (.builtin "object.__getattribute__")) ∧ findIn K (.ref C) "__getattr__" = some none ∧ ∃ cd, clsIn K C = some cd ∧ cd.hasDict = true := by
  simp only [plainCls, Bool.and_eq_true, beq_iff_eq] at h
  obtain ⟨⟨h1, h2⟩, h3⟩ := h
  cases hc : clsIn K C with
  | none => rw [hc] at h3; cases h3
  | some cd => rw [hc] at h3; exact ⟨h1, h2, cd, rfl, h3⟩
theorem gaK_ok (hK : ∀ h tb, X h tb → K.In h) {x v : AV} {name : Str} (hB : GoodB G mg mb X B) (h : gaK K x name st = some v) {xv : Value} (hx : VR ρ x xv) (S : SR B ρ st s) :
    wpAny (model prog w) A (getAttr xv name true) (fun r s' => SR B ρ st s' ∧ VR ρ v r) NoE s := by
  have KI : K.In s.heap := (hK _ _ hB.x).keeps S.g
  unfold gaK at h
  split at h
  · rename_i k
    obtain ⟨a, ha, rfl⟩ := hx
    split at h
    · rename_i C dd hst
      split at h
      · rename_i hc
        split at h
        · rename_i nm m hst2
          split at h
          · rename_i hm
            obtain ⟨v0, h1, h⟩ := Option.bind_eq_some_iff.mp h
            split at h
            · rename_i hnb
              cases h
              obtain ⟨ox, dx, od, mm, I, _, _, _, _, _, hall, hlk⟩ := S.inst ha hst hst2
              have h2 := hall name (by simpa using hm)
              rw [h1] at h2
              obtain ⟨v', e', hv'⟩ := OptR.some h2
              obtain ⟨c1, c2, cd, c3, c4⟩ := plainCls_ok hc.1
              have hfn : findIn K (.ref C) name = some none := by simpa using hc.2
              refine get_value KI I c1 ?_ ?_ ⟨S.toks, hv'⟩
              · unfold findObj
                rw [c3, Option.bind_some, hfn, Option.bind_some]
                dsimp only [Option.bind_some]
                unfold PySem.W.ownOf
                rw [if_pos c4]
                dsimp only
                rw [hlk name, e']
                rfl
              · cases v with
                | blt n => cases hnb
                | none => obtain rfl := hv'; rfl
                | bool b => obtain rfl := hv'; rfl
                | int i => obtain ⟨t, rfl⟩ := hv'; rfl
                | str i => obtain ⟨t, rfl⟩ := hv'; rfl
                | typ n => obtain rfl := hv'; rfl
                | old b => obtain rfl := hv'; rfl
                | ref b => obtain ⟨_, _, rfl⟩ := hv'; rfl
            · cases h
          · cases h
        · cases h
      · cases h
    · cases h
  · cases h
theorem mInst_ok (hK : ∀ h tb, X h tb → K.In h) : SoundM prog w G mg mb X d (mInst K) := by
  intro B x name st r hB h ρ v s A pl hA hv S
  have KI : K.In s.heap := (hK _ _ hB.x).keeps S.g
  unfold mInst at h
  split at h
  · rename_i k
    obtain ⟨a, ha, rfl⟩ := hv
    split at h
    · rename_i C dd hst
      split at h
      · rename_i hc
        split at h
        · rename_i nm m hst2
          split at h
          · rename_i hm
            split at h
            · rename_i f hf
              split at h
              · rename_i ht
                cases h
                obtain ⟨ox, dx, od, mm, I, _, _, _, _, _, hall, hlk⟩ := S.inst ha hst hst2
                simp only [noShadow, Bool.and_eq_true] at hm
                have h2 := hall name (by simpa using hm.1)
                have hnone : m.getD (nm.idxOf name) .none = .none := by simpa using hm.2
                rw [hnone] at h2
                have hmm : mm name = none := by
                  cases e : mm name with
                  | none => rfl
                  | some y => rw [e] at h2; exact h2.elim
                obtain ⟨c1, c2, cd, c3, c4⟩ := plainCls_ok hc
                refine method_fn KI I c1 c2 hf (by simpa using ht) ?_ ⟨S, rfl, .cons ⟨a, ha, rfl⟩ .nil⟩
                unfold shadowIn
                dsimp only
                rw [hlk name, hmm]
                rfl
              · cases h
            · cases h
          · cases h
        · cases h
      · cases h
    · cases h
  · cases h
def mOr (a b : MethF) : MethF := fun x name st => match a x name st with
  | some r => some r
  | .none => b x name st
theorem sound_mor {a b : MethF} (ha : SoundM prog w G mg mb X d a) (hb : SoundM prog w G mg mb X d b) : SoundM prog w G mg mb X d (mOr a b) := by
  intro B x name st r hB h
  unfold mOr at h
  split at h
  · rename_i r' e; cases h; exact ha B x name st _ hB e
  · exact hb B x name st r hB h
end
def setsIn (K : Frag) (C : Addr) (name : Str) : Bool := findIn K (.ref C) "__setattr__" == some (some (.builtin "object.__setattr__")) && plainOver K C && (clsIn K C).any (·.hasDict) && findIn K (.ref C) name == some none
def saK (K : Frag) (names : List Str) : AV → Str → AV → St → Option St := fun x name v st => match x with
  | .ref k => (match st[k]? with
    | some (.inst C d) => if setsIn K C name = true then (match st[d]? with
      | some .edict => some (st.set d (.ns names (names.map fun y => if y = name then some v else .none)))
      | _ => .none) else .none
    | _ => .none)
  | _ => .none
section
variable {prog : Program} {w : World} {G : List (Str × AV)} {mg mb : Str → Option Value} {X : Heap → List TabD → Prop} {d : Nat} {A : Around} {s : Shared} {B : Base} {ρ : List Addr} {st : St} {K : Frag}
theorem saK_ok {names : List Str} (hK : ∀ h tb, X h tb → K.In h) {x v : AV} {name : Str} {st' : St} (hB : GoodB G mg mb X B) (h : saK K names x name v st = some st') {xv vv : Value} (hx : VR ρ x xv) (hv : VR ρ v vv) (S : SR B ρ st s) :
    wpAny (model prog w) A (setAttr xv name vv) (PostU B ρ st') NoE s := by
  have KI : K.In s.heap := (hK _ _ hB.x).keeps S.g
  unfold saK at h
  split at h
  · rename_i k
    obtain ⟨a, ha, rfl⟩ := hx
    split at h
    · rename_i C dd hst
      split at h
      · rename_i hc
        split at h
        · rename_i hst2
          cases h
          simp only [setsIn, Bool.and_eq_true, beq_iff_eq] at hc
          obtain ⟨⟨⟨c1, c2⟩, c3⟩, c4⟩ := hc
          obtain ⟨cd, hcd, hd'⟩ := any_some c3
          obtain ⟨ox, hox, dx, hdx, rfl⟩ := S.obj _ _ _ ha hst
          obtain ⟨od, D, e⟩ := S.obj _ _ _ hdx hst2
          subst e
          have I : InstAt s.heap a ⟨.ref C, some dx, .plain, #[]⟩ C (some { cls := .type "dict", data := .dict #[] }) := ⟨hox, rfl, rfl, D⟩
          refine set_plain KI I c1 (osa_open (s := { s with toks := s.toks + 1 }) KI I c2 (r := none) (by unfold takerIn; rw [c4]; rfl) fun b => ?_)
          refine wpAny_bind (wpAny_pure (wpAny_bind (wpAny_bind (wpAny_loadPart hox (wpAny_bind (looks_clsIn KI hcd _ _ _ _ (fun _ _ e => e) ?_))))))
          rw [hd']
          refine wpAny_pure (a := some dx) (wpAny_bind (wpAny_pure (wpAny_bind ?_)))
          unfold nsSet
          refine wpAny_bind (wpAny_bind (wpAny_askSetting (wpAny_pure (wpAny_bind (wpAny_mkText (wpAny_bind (wpAny_loadPart D ?_)))))))
          dsimp only
          rw [if_neg (by rw [aRefKeyMayBeTheName_at]; simp)]
          generalize (if name.cps.isEmpty = true then (0 : Int) else reduceHash ((model prog w).w.params.strHash name.cps)) = hsh
          refine wpAny_updatePart D ?_
          have D' : (s.heap.update dx (Obj.putName name hsh (.str name (s.toks + 1)) vv)).get? dx = some { cls := .type "dict", data := .dict #[⟨hsh, .str name (s.toks + 1), vv⟩] 1 } := Heap.get?_update_self _ D rfl
          refine wpAny_bind (wpAny_lookBehind D' (pastItsLine_dict (by rw [sizeLine_eq]; simp)) ?_)
          refine wpAny_pure ?_
          refine ⟨ρ, List.prefix_refl _, S.update (tk := s.toks + 1 + 1) hdx hst2 rfl (fun b o hb e => (Heap.get?_update_other _ _ (Ne.symm hb)).trans e) D' ⟨_, _, rfl, ?_, by simp, fun y hy => ?_⟩⟩
          · intro e he
            have : e = ⟨hsh, .str name (s.toks + 1), vv⟩ := by simpa using he
            subst this
            exact ⟨name, _, rfl⟩
          · have hget : (names.map fun y => if y = name then some v else .none).getD (names.idxOf y) .none = if y = name then some v else .none := by
              rw [List.getD_eq_getElem?_getD, List.getElem?_map, idx_get hy]; rfl
            rw [hget]
            have hns : nsFind #[⟨hsh, .str name (s.toks + 1), vv⟩] y = if y = name then some vv else none := by
              unfold nsFind findBy
              by_cases e : y = name
              · subst e; simp [Value.isStr]
              · have : ¬ name = y := fun q => e q.symm
                simp [Value.isStr, e, this]
            rw [hns]
            by_cases e : y = name
            · rw [if_pos e, if_pos e]; exact hv
            · rw [if_neg e, if_neg e]; trivial
        · cases h
      · cases h
    · cases h
  · cases h
def makeIn (K : Frag) (C : Addr) : Option Addr := if makesIn K C = true then (match findIn K (.ref C) "__init__" with
  | some (some (.ref f)) => if (typeIn K (.ref f) == some (.type "function")) = true ∧ keepIn K (.ref C) = true then some f else .none
  | _ => .none) else .none
def cMake (K : Frag) (c : CallF) : CallF := fun f args kw st => match f with
  | .old C => (makeIn K C).bind fun fI => (c (.old fI) (.ref (st.length + 1) :: args) kw (st ++ [.edict, .inst C st.length])).bind fun r => (match r.1 with
    | .none => some (.ref (st.length + 1), r.2)
    | _ => .none)
  | _ => .none
theorem sound_make (hK : ∀ h tb, X h tb → K.In h) {c : CallF} (hc : SoundCC prog w G mg mb X d c) : SoundC prog w G mg mb X (d + 1) (cMake K c) := by
  intro B f args kw st r hB h ρ fv vs kvs s A hA hf hargs hkw S
  have KI : K.In s.heap := (hK _ _ hB.x).keeps S.g
  unfold cMake at h
  split at h
  · rename_i C
    obtain rfl := hf
    obtain ⟨fI, h1, h⟩ := bind2 h
    obtain ⟨r1, h2, h⟩ := bind2 h
    unfold makeIn at h1
    split at h1
    · rename_i hm
      split at h1
      · rename_i f0 hi
        split at h1
        · rename_i ht
          cases h1
          have len := S.len
          have S1 := S.push (tk := s.toks) (o := emptyDict) (ao := .edict) rfl rfl (hed := fun _ => Nat.ne_of_gt (low_of hB S))
          have hsz : (s.heap.push emptyDict).objs.size = s.heap.objs.size + 1 := Heap.size_push ..
          have hd0 : (ρ ++ [s.heap.objs.size])[st.length]? = some s.heap.objs.size := by rw [← len]; simp
          have S2 := S1.push (tk := s.toks) (o := instObj C s.heap.objs.size) (ao := .inst C st.length) rfl ⟨_, pre_get (List.prefix_append _ _) hd0, rfl⟩
          rw [List.append_assoc, List.append_assoc] at S2
          have pre : ρ <+: ρ ++ ([s.heap.objs.size] ++ [(s.heap.push emptyDict).objs.size]) := List.prefix_append _ _
          have hx : (ρ ++ ([s.heap.objs.size] ++ [(s.heap.push emptyDict).objs.size]))[st.length + 1]? = some (s.heap.objs.size + 1) := by
            rw [List.getElem?_append_right (by omega), hsz]
            rw [show st.length + 1 - ρ.length = 1 by omega]; rfl
          have hA' : Room (A.under (.builtin "type.__call__" ⟨.ref C :: vs, kvs⟩)) d := by
            have hu : (Code.builtin "type.__call__" ⟨.ref C :: vs, kvs⟩).cUnits ≤ 8 := by show _ ≤ 8; exact Nat.le_of_ble_eq_true rfl
            refine ⟨hA.handled, ?_, ?_⟩
            · have := hA.depth
              show A.depth + 1 + d < 1000
              omega
            · have := hA.units
              show A.units + (Code.builtin "type.__call__" ⟨.ref C :: vs, kvs⟩).cUnits + 8 * d < 9800
              omega
          obtain ⟨_, hcall⟩ := hc B (.old fI) (.ref (st.length + 1) :: args) kw _ r1 hB h2 _ (.ref fI) (.ref (s.heap.objs.size + 1) :: vs) kvs _ _ hA' rfl (.cons ⟨_, hx, rfl⟩ (hargs.mono fun _ _ => VR.mono pre)) (KwR.mono pre hkw) S2
          simp only [Bool.and_eq_true, beq_iff_eq] at ht
          refine ⟨?_, wpAny_call ?_⟩
          · intro Q hQ
            obtain ⟨kk, _, L⟩ := looks_keep (M := model prog w) ht.2 KI
            exact L _ _ _ _ (fun _ _ e => e) (hQ _)
          · obtain ⟨hh, g, dr, t, os⟩ := s
            refine make_core (makes_of KI hm) (looks_findIn KI hi) (fun self => bind_fn KI self ht.1) (.inl rfl) (codeAny_mono hcall fun x s' kx => ?_)
            rcases x with e | (v | _ | _ | _) <;> first | exact kx.elim | skip
            obtain ⟨ρ1, e1, S3, v1⟩ := kx
            split at h
            · rename_i hr1
              cases h
              rw [hr1] at v1
              exact ⟨v1, ρ1, pre.trans e1, S3, _, pre_get e1 hx, rfl⟩
            · cases h
        · cases h1
      · cases h1
    · cases h1
  · cases h
end
open PySem.Builtin PySem.Builtin.Re
def drv : Nat → Sre.M → Option Sre.M
  | 0, _ => .none
  | n + 1, m => if (m.runFor reTurnSteps).outcome.isSome = true then some (m.runFor reTurnSteps) else drv n (m.runFor reTurnSteps)
def failsBy (n : Nat) (m : Sre.M) : Bool := match drv n m with
  | some m' => (match m'.outcome with
    | some .failed => true
    | _ => false)
  | .none => false
section
variable {prog : Program} {w : World} {A : Around} {E : Value → Shared → Prop} {s : Shared}
theorem drive_ok : ∀ (n turns : Nat) (m m' : Sre.M) {Q : Sre.M → Shared → Prop}, drv n m = some m' → n ≤ turns → Q m' s → wpAny (model prog w) A (reDrive turns m) Q E s
  | 0, _, _, _, _, h, _, _ => by cases h
  | n + 1, 0, _, _, _, _, hn, _ => by omega
  | n + 1, turns + 1, m, m', Q, h, hn, hQ => by
    unfold drv at h
    unfold reDrive
    dsimp only
    split at h
    · rename_i hc
      cases h
      rw [if_pos hc]
      exact wpAny_pure hQ
    · rename_i hc
      rw [if_neg hc]
      exact wpAny_bind (wpAny_rule (drive_ok n turns _ m' h (by omega) hQ))
theorem runToEnd_ok {n : Nat} {m : Sre.M} {Q : Option Sre.M → Shared → Prop} (h : failsBy n m = true) (hn : n ≤ 2 ^ 64) (hQ : Q none s) : wpAny (model prog w) A (reRunToEnd m) Q E s := by
  unfold failsBy at h
  split at h
  · rename_i m' hm
    split at h
    · rename_i ho
      unfold reRunToEnd
      refine wpAny_bind (drive_ok n _ m m' hm hn ?_)
      refine wpAny_bind (wpAny_forIn_list _ (fun _ _ s' => s' = s) _ (fun x rest b s' hs => ?_) (fun b s' hs => ?_) _ _ rfl)
      · subst hs
        split
        · exact wpAny_bind (wpAny_rule (wpAny_pure rfl))
        · exact wpAny_pure rfl
      · subst hs
        rw [ho]
        exact wpAny_pure hQ
    · cases h
  · cases h
end
open PySem.Builtin PySem.Builtin.Re
theorem slot_search : Slot "re.Pattern" "search" "re.Pattern.search" :=
  .of (owner := "re.Pattern") (n := "search") (by rw [typeLookup_type, builtinLookup_eq_fast]; kernel_rfl) (by decide +kernel) (by decide +kernel) (by decide +kernel)
    (by first | exact .inl (by decide +kernel) | exact .inr (by decide +kernel)) (by rw [isSubtype_type]; kernel_rfl)
theorem entry_search : entryFor table "re.Pattern.search" = some Builtin.«re.Pattern.search» := entryFor_of_tree (by kernel_rfl)
theorem type_search : typeOf (.builtin "re.Pattern.search") = pure (.type "method_descriptor") := by show builtinType _ = _; rw [builtinType_eq_fast]; kernel_rfl
theorem args_search (a b : Value) : argsOk "re.Pattern.search" ⟨[a, b], []⟩ := by
  first
  | (unfold argsOk; kernel_rfl)
  | (unfold argsOk; rw [signature?_of (id := "re.Pattern.search") (n := ['h', 'c', 'r', 'a', 'e', 's']) (o := ['n', 'r', 'e', 't', 't', 'a', 'P', '.', 'e', 'r']) (by kernel_rfl) (by kernel_rfl)]; kernel_rfl)
section
variable {prog : Program} {w : World} {A : Around} {E : Value → Shared → Prop} {s : Shared}
theorem named_1 (v : Value) : reNamed "re.Pattern.search" "search" ["string", "pos", "endpos"] 1 [v] [] = pure [some v, none, none] := by rfl
theorem search_none {P L : Addr} {o ol : Obj} {fs items : Array Value} {nl : Nat} {x : Str} {t : Tok} {N : Nat} {Q : Value → Shared → Prop} (ho : s.heap.get? P = some o) (hc : o.cls = .type "re.Pattern") (hd : o.data = .fields fs) (h5 : fs.getD 5 .none = .ref L) (hL : s.heap.get? L = some ol) (hLd : ol.data = .seq items nl)
    (h6 : (reRawNat (fs.getD 6 .none) == 1) = false) (hN : N ≤ 2 ^ 64)
    (hf : failsBy N (Sre.forSearch ((items.map reRawOf).map (·.toNat)) x.cps (reRawNat (fs.getD 2 .none)) (min (0 : Int).toNat x.cps.size) (min ((2 ^ 63 - 1 : Int)).toNat x.cps.size) false) = true) (hQ : Q .none s) :
    wpAny (model prog w) A (call (.builtin "re.Pattern.search") [.ref P, .str x t]) Q E s := by
  refine wpAny_call_entry slot_search ⟨o, ho, hc⟩ entry_search ?_ (args_search _ _)
  unfold Builtin.«re.Pattern.search» reTarget
  refine wpAny_bind ?_
  dsimp only
  rw [named_1]
  refine wpAny_bind (wpAny_pure ?_)
  dsimp only
  refine wpAny_bind (wpAny_pure (wpAny_bind (wpAny_pure (wpAny_bind (wpAny_fieldsOf ho hd ?_)))))
  refine wpAny_bind (m := reTextOf (.str x t)) (wpAny_of_eq (a := (x.cps, 0)) rfl ?_)
  dsimp only
  rw [if_neg (by simp), if_neg (by rw [h6]; simp)]
  refine wpAny_bind (m := reNoCollectionInside (.str x t) 0) (wpAny_of_eq (a := ()) rfl ?_)
  rw [h5]
  unfold reRawItems
  refine wpAny_bind (wpAny_bind (wpAny_seqItems hL hLd (wpAny_pure ?_)))
  refine wpAny_pure ?_
  unfold reAnswer
  dsimp only
  refine wpAny_bind (runToEnd_ok hf hN ?_)
  exact wpAny_pure ⟨.none, rfl, hQ⟩
end
open PySem.Builtin PySem.Builtin.Re
def patIn (K : Frag) (P : Addr) : Option (Nat × Array Int) := match K.lookup P with
  | some ⟨.type "re.Pattern", .none, .fields fs, _⟩ => (match fs.getD 5 .none with
    | .ref L => (match K.lookup L with
      | some ⟨_, _, .seq items _, _⟩ => if (reRawNat (fs.getD 6 .none) == 1) = false then some (reRawNat (fs.getD 2 .none), items.map reRawOf) else .none
      | _ => .none)
    | _ => .none)
  | _ => .none
def mRe (K : Frag) : MethF := fun x name st => match x with
  | .old P => if (patIn K P).isSome = true ∧ name = "search" then some (.blt "re.Pattern.search", [.old P]) else .none
  | _ => .none
def cSearch (K : Frag) : CallF := fun f args kw st => match f, args, kw with
  | .blt "re.Pattern.search", [.old P, .str x], [] => (patIn K P).bind fun p => if failsBy 1000 (Sre.forSearch (p.2.map (·.toNat)) x.cps p.1 (min (0 : Int).toNat x.cps.size) (min ((2 ^ 63 - 1 : Int)).toNat x.cps.size) false) = true then some (.none, st) else .none
  | _, _, _ => .none
section
variable {prog : Program} {w : World} {G : List (Str × AV)} {mg mb : Str → Option Value} {X : Heap → List TabD → Prop} {d : Nat} {A : Around} {s : Shared} {B : Base} {ρ : List Addr} {st : St} {K : Frag}
theorem patIn_ok {P : Addr} {p : Nat × Array Int} (h : patIn K P = some p) : ∃ o fs L ol items n, K.lookup P = some o ∧ o.cls = .type "re.Pattern" ∧ o.dict = none ∧ o.data = .fields fs ∧ fs.getD 5 .none = .ref L ∧ K.lookup L = some ol ∧ ol.data = .seq items n ∧ (reRawNat (fs.getD 6 .none) == 1) = false ∧ p = (reRawNat (fs.getD 2 .none), items.map reRawOf) := by
  unfold patIn at h
  split at h
  · rename_i fs sl hP
    split at h
    · rename_i L hL
      split at h
      · rename_i items n _ hl
        split at h
        · rename_i h6
          cases h
          exact ⟨_, fs, L, _, items, _, hP, rfl, rfl, rfl, hL, hl, rfl, h6, rfl⟩
        · cases h
      · cases h
    · cases h
  · cases h
theorem sound_search (hK : ∀ h tb, X h tb → K.In h) : SoundC prog w G mg mb X d (cSearch K) := by
  intro B f args kw st r hB h ρ fv vs kvs s A hA hf hargs hkw S
  have KI : K.In s.heap := (hK _ _ hB.x).keeps S.g
  unfold cSearch at h
  split at h
  · obtain rfl := hf; obtain ⟨v, v', rfl, hv, hv'⟩ := hargs.inv2; obtain rfl := hkw.nil'
    obtain rfl := hv; obtain ⟨t, rfl⟩ := hv'
    obtain ⟨p, h1, h⟩ := bind2 h
    split at h
    · rename_i hf
      cases h
      obtain ⟨o, fs, L, ol, items, n, a1, a2, a3, a4, a5, a6, a7, a8, rfl⟩ := patIn_ok h1
      exact ⟨keeper_blt, search_none (KI _ _ a1) a2 a4 a5 (KI _ _ a6) a7 a8 (N := 1000) (by decide) hf (Post.here S rfl)⟩
    · cases h
  · cases h
theorem plainAttrs_re : PlainAttrs "re.Pattern" :=
  ⟨⟨"object.__getattribute__", by rw [typeLookup_type, builtinLookup_eq_fast]; kernel_rfl, by decide +kernel⟩, by rw [typeLookup_type, builtinLookup_eq_fast]; kernel_rfl⟩
theorem sound_mre (hK : ∀ h tb, X h tb → K.In h) : SoundM prog w G mg mb X d (mRe K) := by
  intro B x name st r hB h ρ v s A pl hA hv S
  have KI : K.In s.heap := (hK _ _ hB.x).keeps S.g
  unfold mRe at h
  split at h
  · rename_i P
    obtain rfl := hv
    split at h
    · rename_i hc
      obtain ⟨hp, rfl⟩ := hc
      cases h
      obtain ⟨p, hp⟩ := Option.isSome_iff_exists.mp hp
      obtain ⟨o, fs, L, ol, items, n, a1, a2, a3, a4, _⟩ := patIn_ok hp
      exact getMethod_builtin ⟨o, KI _ _ a1, a2⟩ plainAttrs_re slot_search type_search (fun a e => by cases e; exact ⟨o, KI _ _ a1, a3⟩) ⟨S, rfl, .cons rfl .nil⟩
    · cases h
  · cases h
end
def fj (n : Nat) (js : List Nat) (N k : Nat) : Nat := if k < n then k else (js[k - n]?).getD (N + k)
structure Trim (st st1 : St) (v : AV) (r : AV × St) : Prop where
  ex : ∃ js : List Nat, js.Nodup ∧ (∀ j ∈ js, st.length ≤ j ∧ j < st1.length) ∧ r.2.length = st.length + js.length ∧ st.length ≤ st1.length ∧
    (∀ (j : Nat) (ao2 : AO), r.2[j]? = some ao2 → st1[fj st.length js st1.length j]? = some (ao2.ren (fj st.length js st1.length)) ∨ (j < st.length ∧ st1[j]? = some ao2 ∧ ao2.lt st.length)) ∧
    v = r.1.ren (fj st.length js st1.length)
section
variable {prog : Program} {w : World} {G : List (Str × AV)} {mg mb : Str → Option Value} {X : Heap → List TabD → Prop} {d : Nat}
theorem Trim.use {st st1 : St} {v : AV} {r : AV × St} (h : Trim st st1 v r) {B : Base} {ρ ρ1 : List Addr} {s s1 : Shared} (S : SR B ρ st s) (hp : ρ <+: ρ1) (S1 : SR B ρ1 st1 s1) {vv : Value} (hv : VR ρ1 v vv) : Post B ρ r vv s1 := by
  obtain ⟨js, nd, hj, hl, hle, h1, he⟩ := h.ex
  have hlo : ∀ k, k < st.length → fj st.length js st1.length k = k := fun k hk => if_pos hk
  have hhi : ∀ k, st.length ≤ k → k < r.2.length → ∃ p, js[k - st.length]? = some p ∧ fj st.length js st1.length k = p := fun k h1 h2 => by
    have : k - st.length < js.length := by omega
    refine ⟨_, List.getElem?_eq_getElem this, ?_⟩
    unfold fj
    rw [if_neg (by omega), List.getElem?_eq_getElem this, Option.getD_some]
  obtain ⟨ρ2, g1, S2, g3⟩ := S1.trim (fj st.length js st1.length) st.length r.2 (by omega) hlo h1 (fun i j hi hj' e => by
    by_cases a : i < st.length <;> by_cases b : j < st.length
    · rw [hlo i a, hlo j b] at e; exact e
    · obtain ⟨p, p1, p2⟩ := hhi j (by omega) hj'
      rw [hlo i a, p2] at e
      have := (hj p (List.mem_of_getElem? p1)).1
      omega
    · obtain ⟨p, p1, p2⟩ := hhi i (by omega) hi
      rw [hlo j b, p2] at e
      have := (hj p (List.mem_of_getElem? p1)).1
      omega
    · obtain ⟨p, p1, p2⟩ := hhi i (by omega) hi
      obtain ⟨q, q1, q2⟩ := hhi j (by omega) hj'
      rw [p2, q2] at e
      subst e
      obtain ⟨a1, a2⟩ := List.getElem?_eq_some_iff.mp p1
      obtain ⟨b1, b2⟩ := List.getElem?_eq_some_iff.mp q1
      have := (List.getElem_inj nd).mp (a2.trans b2.symm)
      omega) (fun j hj' => by
    unfold fj
    rw [if_neg (by omega), List.getElem?_eq_none (by omega), Option.getD_none]
    omega)
  refine ⟨ρ2, ?_, S2, g3 _ _ (he ▸ hv)⟩
  rw [List.prefix_iff_getElem?]
  intro i hi
  have hi' : i < st.length := by rw [← S.len]; exact hi
  rw [g1 i (by omega), hlo i hi']
  exact pre_get hp (List.getElem?_eq_getElem hi)
theorem sound_told {run : AV → List AV → List (Str × AV) → St → Option (AFlow × St)} {c : CallF} (hr : SoundSmall prog w G mg mb X d run)
    (h : ∀ f args kw st r, c f args kw st = some r → WF st → ∃ fl st1, run f args kw st = some (fl, st1) ∧ Trim st st1 (retOf fl) r) : SoundCC prog w G mg mb X d c := by
  intro B f args kw st r hB hc ρ fv vs kvs s A hA hf hargs hkw S
  obtain ⟨fl, st1, h1, h2⟩ := h f args kw st r hc S.wf
  obtain ⟨k1, k2⟩ := hr B f args kw st _ hB h1 ρ fv vs kvs s A hA hf hargs hkw S
  refine ⟨k1, codeAny_mono k2 fun x s' kx => ?_⟩
  rcases x with e | (v | _ | _ | _) <;> first | exact kx.elim | skip
  obtain ⟨ρ1, e1, S1, v1⟩ := kx
  exact h2.use S e1 S1 v1
theorem trim0 {st g : St} {v : AV} (hw : WF st) (hv : v.flat = true) : Trim st (st ++ g) v (v, st) := by
  refine ⟨[], List.nodup_nil, fun j h => (by cases h), rfl, by simp, fun j ao2 h => .inr ⟨(List.getElem?_eq_some_iff.mp h).1, ?_, hw j ao2 h⟩, (AV.ren_flat hv _).symm⟩
  rw [List.getElem?_append_left (List.getElem?_eq_some_iff.mp h).1]; exact h
theorem trim1 {st g : St} {j : Nat} {ob : AO} (hw : WF st) (hg : g[j]? = some ob) (hf : ob.flat = true) : Trim st (st ++ g) (.ref (st.length + j)) (.ref st.length, st ++ [ob]) := by
  have hj := (List.getElem?_eq_some_iff.mp hg).1
  refine ⟨[st.length + j], by simp, fun k h => ?_, by simp, by simp, fun k ao2 h => ?_, ?_⟩
  · rw [List.mem_singleton] at h
    subst h
    simp [hj]
  · by_cases hk : k < st.length
    · rw [List.getElem?_append_left hk] at h
      exact .inr ⟨hk, by rw [List.getElem?_append_left hk]; exact h, hw k ao2 h⟩
    · rw [List.getElem?_append_right (by omega)] at h
      have : k = st.length := by
        have := (List.getElem?_eq_some_iff.mp h).1
        simp at this; omega
      subst this
      simp only [Nat.sub_self, List.getElem?_cons_zero, Option.some.injEq] at h
      subst h
      left
      unfold fj
      simp only [Nat.lt_irrefl, if_false, Nat.sub_self, List.getElem?_cons_zero, Option.getD_some, AO.ren_flat hf]
      rw [List.getElem?_append_right (by omega), Nat.add_sub_cancel_left]; exact hg
  · unfold fj AV.ren
    simp
theorem trimSet {st g : St} {v : AV} {k : Nat} {ob : AO} (hw : WF st) (hv : v.flat = true) (hf : ob.flat = true) : Trim st (st.set k ob ++ g) v (v, st.set k ob) := by
  refine ⟨[], List.nodup_nil, fun j h => (by cases h), by simp, by simp, fun j ao2 h => ?_, (AV.ren_flat hv _).symm⟩
  have hj := (List.getElem?_eq_some_iff.mp h).1
  have hj' : j < st.length := by simpa using hj
  by_cases e : k = j
  · subst e
    rw [List.getElem?_set_self hj'] at h
    cases h
    left
    unfold fj
    rw [if_pos hj', AO.ren_flat hf, List.getElem?_append_left (by simpa using hj'), List.getElem?_set_self hj']
  · rw [List.getElem?_set_ne e] at h
    exact .inr ⟨hj', by rw [List.getElem?_append_left (by simpa using hj'), List.getElem?_set_ne e]; exact h, hw j ao2 h⟩
end
theorem getA {α : Type} {L R : List α} : (L ++ R)[L.length]? = R[0]? := by rw [List.getElem?_append_right (Nat.le_refl _), Nat.sub_self]
theorem getK {α : Type} {L R : List α} (k : Nat) : (L ++ R)[L.length + k]? = R[k]? := by rw [List.getElem?_append_right (by omega), Nat.add_sub_cancel_left]
theorem setA {α : Type} {L R : List α} {x : α} : (L ++ R).set L.length x = L ++ R.set 0 x := by rw [List.set_append_right _ _ (Nat.le_refl _), Nat.sub_self]
theorem setK {α : Type} {L R : List α} {x : α} (k : Nat) : (L ++ R).set (L.length + k) x = L ++ R.set k x := by rw [List.set_append_right _ _ (by omega), Nat.add_sub_cancel_left]
theorem gName_shift {scope : Scope} {cl : List Str} {qual : Str} {G : List (Str × AV)} {code : Value} {x : Str} {v : AV} {L R R' : St} (h : gName (fnSc scope cl qual G) x v (envA scope [] code 0) R = some R') :
    gName (fnSc scope cl qual G) x v (envA scope [] code L.length) (L ++ R) = some (L ++ R') := by
  unfold gName at *
  split at h
  · rename_i hc
    rw [if_pos hc]
    unfold gLoc at *
    simp only [envA] at *
    rw [getA]
    split at h
    · rename_i nm' m hm
      rw [hm]
      dsimp only
      split at h
      · rename_i he
        rw [if_pos he, setA]
        cases h
        rfl
      · cases h
    · cases h
  · rename_i hc
    rw [if_neg hc]
    unfold gCell at *
    simp only [envA, List.append_nil, List.getElem?_map] at *
    generalize (List.range (ownOf scope).length)[(fnSc scope cl qual G).cn.idxOf x]? = q at *
    cases q with
    | none => cases h
    | some i =>
      simp only [Option.map_some] at *
      rw [show 0 + 1 + i = 1 + i by omega] at h
      rw [show L.length + 1 + i = L.length + (1 + i) by omega, getK]
      split at h
      · rename_i v' hv
        rw [hv]
        dsimp only
        rw [setK]
        cases h
        rfl
      · cases h
theorem bindAll_shift {scope : Scope} {cl : List Str} {qual : Str} {G : List (Str × AV)} {code : Value} {L : St} : ∀ {binds : List (Str × AV)} {R R' : St}, bindAll (fnSc scope cl qual G) binds (envA scope [] code 0) R = some R' →
    bindAll (fnSc scope cl qual G) binds (envA scope [] code L.length) (L ++ R) = some (L ++ R')
  | [], _, _, h => by cases h; rfl
  | (x, v) :: binds, R, R', h => by
    unfold bindAll at *
    obtain ⟨R1, h1, h⟩ := bind2 h
    rw [gName_shift h1]
    exact bindAll_shift h
noncomputable def prep (K : Frag) (R : Rt) (fuel : Nat) (a : Addr) (args : List AV) (kw : List (Str × AV)) (L : St) : Option (St × St × List Nat × Value × Act AFlow) := (fiOf K a).bind fun fi => (fi.bind args kw L).bind fun bs =>
  if fnOk fi.scope [] = true ∧ bs.1.all (fun p => okName (fnSc fi.scope [] (fi.qual ++ ".<locals>.") R.G) p.1) = true then
    (cXs R fuel (fnSc fi.scope [] (fi.qual ++ ".<locals>.") R.G) fi.body).bind fun act => (bindAll (fnSc fi.scope [] (fi.qual ++ ".<locals>.") R.G) bs.1 (envA fi.scope [] fi.code 0) (frameOf fi.scope)).bind fun fr =>
      some (bs.2, fr, (List.range (ownOf fi.scope).length).map (fun i => 1 + i), fi.code, act)
  else .none
theorem run_prep {K : Frag} {R : Rt} {fuel : Nat} {a : Addr} {args : List AV} {kw : List (Str × AV)} {L L1 fr : St} {cs : List Nat} {code : Value} {act : Act AFlow} (h : prep K R fuel a args kw L = some (L1, fr, cs, code, act)) :
    smallRun R fuel (fiOf K) (.old a) args kw L = act ⟨L1.length, cs.map (L1.length + ·), code⟩ (L1 ++ fr) := by
  unfold prep at h
  obtain ⟨fi, h1, h⟩ := bind2 h
  obtain ⟨bs, h2, h⟩ := bind2 h
  split at h
  · rename_i hc
    obtain ⟨act', h3, h⟩ := bind2 h
    obtain ⟨fr', h4, h⟩ := bind2 h
    cases h
    unfold smallRun
    simp only [h1, Option.bind_some, h2]
    unfold runFn
    simp only [List.map_nil]
    rw [if_pos hc, h3, Option.bind_some, bindAll_shift h4, Option.bind_some]
    unfold envA
    simp only [List.append_nil, List.map_nil, List.map_map]
    congr 2
    refine List.map_congr_left fun i _ => ?_
    show _ + 1 + i = _ + (1 + i)
    omega
  · cases h
noncomputable def prepC (R : Rt) (fuel : Nat) (ps : Arguments) (body : List Stmt) (scope : Scope) (qual : Str) (cn : List Str) (args : List AV) : Option (St × Act AFlow) :=
  if argsPlain ps = true ∧ (ownOf scope).length = 0 then (bindPlain (ps.args.map (·.arg)) args []).bind fun bs =>
  if fnOk scope cn = true ∧ bs.all (fun p => okName (fnSc scope cn (qual ++ ".<locals>.") R.G) p.1) = true then
    (cXs R fuel (fnSc scope cn (qual ++ ".<locals>.") R.G) body).bind fun act => (bindAll (fnSc scope cn (qual ++ ".<locals>.") R.G) bs (envA scope [] .none 0) (frameOf scope)).bind fun fr => if bs.all (fun p => scope.names.lookup p.1 == some .local) = true then some (fr, act) else .none
  else .none else .none
theorem bindAll_env {Γ : Sc} {ae ae' : AEnv} (hf : ae'.fr = ae.fr) : ∀ {binds : List (Str × AV)} {R R' : St}, binds.all (fun p => Γ.scope.names.lookup p.1 == some .local) = true → bindAll Γ binds ae R = some R' → bindAll Γ binds ae' R = some R'
  | [], _, _, _, h => h
  | (x, v) :: binds, R, R', ha, h => by
    rw [List.all_cons, Bool.and_eq_true] at ha
    unfold bindAll at *
    obtain ⟨R1, h1, h⟩ := bind2 h
    have : gName Γ x v ae' R = some R1 := by
      unfold gName at *
      have hx : Γ.scope.names.lookup x = some .local := by simpa using ha.1
      rw [if_pos hx] at *
      unfold gLoc at *
      rw [hf]; exact h1
    rw [this]
    exact bindAll_env hf ha.2 h
theorem run_prepC {infos : Addr → Option Fi} {R : Rt} {fuel k : Nat} {ps : Arguments} {body : List Stmt} {scope : Scope} {qual : Str} {cl : List (Str × Nat)} {P : Addr} {args : List AV} {L fr : St} {act : Act AFlow} (hk : L[k]? = some (.fn ps body scope qual cl P)) (h : prepC R fuel ps body scope qual (cl.map (·.1)) args = some (fr, act)) :
    smallRun R fuel infos (.ref k) args [] L = act ⟨L.length, cl.map (·.2), .none⟩ (L ++ fr) := by
  unfold prepC at h
  split at h
  · rename_i hp
    obtain ⟨bs, h2, h⟩ := bind2 h
    split at h
    · rename_i hc
      obtain ⟨act', h3, h⟩ := bind2 h
      obtain ⟨fr', h4, h⟩ := bind2 h
      split at h
      · rename_i hl
        cases h
        have own : ownOf scope = [] := List.eq_nil_of_length_eq_zero hp.2
        unfold smallRun
        simp only [hk]
        rw [if_pos hp.1, h2, Option.bind_some]
        unfold runFn
        rw [if_pos hc, h3, Option.bind_some]
        have h5 : bindAll (fnSc scope (cl.map (·.1)) (qual ++ ".<locals>.") R.G) bs (envA scope (cl.map (·.2)) .none L.length) (L ++ frameOf scope) = some (L ++ fr) := bindAll_env (ae := envA scope [] .none L.length) (ae' := envA scope (cl.map (·.2)) .none L.length) rfl hl (bindAll_shift h4)
        rw [h5, Option.bind_some]
        unfold envA
        rw [own]
        rfl
      · cases h
    · cases h
  · cases h
def mSet : MethF := fun x name st => match x with
  | .ref k => (match st[k]? with
    | some (.set1 _) => if name = "pop" then some (.blt "set.pop", [.ref k]) else .none
    | some .edict => if name = "items" then some (.blt "dict.items", [.ref k]) else .none
    | _ => .none)
  | _ => .none
def cSet : CallF := fun f args kw st => match f, args, kw with
  | .typ "set", [], [] => some (.ref st.length, st ++ [.eset])
  | .blt "set.pop", [.ref k], [] => (match st[k]? with
    | some (.set1 i) => some (.int i, st.set k .eset)
    | _ => .none)
  | .blt "dict.items", [.ref k], [] => (match st[k]? with
    | some .edict => some (.ref st.length, st ++ [.dview k])
    | _ => .none)
  | _, _, _ => .none
section
variable {prog : Program} {w : World} {G : List (Str × AV)} {mg mb : Str → Option Value} {X : Heap → List TabD → Prop} {d : Nat} {A : Around} {s : Shared} {B : Base} {ρ : List Addr} {st : St}
theorem sound_mset : SoundM prog w G mg mb X d mSet := by
  intro B x name st r hB h ρ v s A pl hA hv S
  unfold mSet at h
  split at h
  · rename_i k
    obtain ⟨a, ha, rfl⟩ := hv
    split at h
    · rename_i hst
      split at h
      · rename_i hn
        subst hn
        cases h
        obtain ⟨o, ho, hex, _⟩ := S.obj _ _ _ ha hst
        exact getMethod_builtin ⟨o, ho, hex.1⟩ F.plainAttrs_set F.slot_set_pop F.type_set_pop (fun b e => by cases e; exact ⟨o, ho, hex.2.1⟩) ⟨S, rfl, .cons ⟨a, ha, rfl⟩ .nil⟩
      · cases h
    · rename_i hst
      split at h
      · rename_i hn
        subst hn
        cases h
        obtain ⟨o, ho, rfl⟩ := S.obj _ _ _ ha hst
        exact getMethod_builtin ⟨_, ho, rfl⟩ F.plainAttrs_dict F.slot_dict_items F.type_dict_items (fun b e => by cases e; exact ⟨_, ho, rfl⟩) ⟨S, rfl, .cons ⟨a, ha, rfl⟩ .nil⟩
      · cases h
    · cases h
  · cases h
theorem SR.drawn (S : SR B ρ st s) {dr : Drawn} : SR B ρ st { s with drawn := dr } := ⟨S.keep, S.len, S.nd, S.apart, S.obj, S.gens, S.os, S.eds, S.tab, S.fns⟩
theorem sound_cset : SoundC prog w G mg mb X d cSet := by
  intro B f args kw st r hB h ρ fv vs kvs s A hA hf hargs hkw S
  unfold cSet at h
  split at h
  · cases h
    obtain rfl := hf
    cases hargs
    obtain rfl := hkw.nil'
    refine ⟨keeper_typ, call_set_0 fun led => ?_⟩
    have S1 := S.push (tk := s.toks) (o := { cls := .type "set", dict := none, data := .set #[] 0 (.fresh 0 0 led) }) (ao := .eset) rfl ⟨⟨rfl, rfl, rfl⟩, 0, _, rfl, rfl⟩
    exact ⟨_, List.prefix_append _ _, S1, s.heap.objs.size, by rw [← S.len]; simp, rfl⟩
  · rename_i k
    obtain rfl := hf; obtain ⟨v, rfl, hv⟩ := hargs.inv1; obtain rfl := hkw.nil'
    obtain ⟨a, ha, rfl⟩ := hv
    split at h
    · rename_i i hst
      cases h
      obtain ⟨o, ho, hex, hh, tk, ep, t, hd, hfit⟩ := S.obj _ _ _ ha hst
      refine ⟨keeper_blt, pop_one ho hex hd hfit fun h' o' ep' t' dr hsb ho' hex' hd' hf' => ?_⟩
      have S3 := (S.update (tk := s.toks) (ao' := .eset) ha hst rfl (fun b x hb e => (hsb.2 b hb).trans e) ho' ⟨hex', ep', t', hd', hf'⟩).drawn (dr := dr)
      exact ⟨ρ, List.prefix_refl _, S3, tk, rfl⟩
    · cases h
  · rename_i k
    obtain rfl := hf; obtain ⟨v, rfl, hv⟩ := hargs.inv1; obtain rfl := hkw.nil'
    obtain ⟨a, ha, rfl⟩ := hv
    split at h
    · rename_i hst
      cases h
      obtain ⟨o, ho, rfl⟩ := S.obj _ _ _ ha hst
      have hne := S.eds _ _ ha hst
      refine ⟨keeper_blt, call_meetsIn F.slot_dict_items ⟨_, ho, rfl⟩ F.entry_dict_items (F.args_dict_items_1 _) (meets_dict_items (PySem.intKind prog w) a (by simpa using hne)) ⟨⟨[], dictOf_empty ho⟩, ?_⟩⟩
      have S1 := S.push (tk := s.toks) (o := { cls := .type "dict_items", data := .fields #[.ref a] }) (ao := .dview k) rfl ⟨a, pre_get (List.prefix_append _ _) ha, rfl⟩
      exact ⟨_, List.prefix_append _ _, S1, s.heap.objs.size, by rw [← S.len]; simp, rfl⟩
    · cases h
  · cases h
end
theorem nat_xor_and : ∀ (a b : Nat), (a ^^^ b) + 2 * (a &&& b) = a + b := by
  intro a
  induction a using Nat.strongRecOn with
  | ind a ih =>
    intro b
    by_cases h0 : a = 0
    · subst h0; simp
    · have i := ih (a / 2) (by omega) (b / 2)
      have h1 : (a ^^^ b) / 2 = a / 2 ^^^ b / 2 := Nat.xor_div_two
      have h2 : (a &&& b) / 2 = a / 2 &&& b / 2 := Nat.and_div_two
      have h3 : (a ^^^ b) % 2 = (a % 2) ^^^ (b % 2) := by
        have := Nat.xor_mod_two_pow (a := a) (b := b) (n := 1)
        simpa using this
      have h4 : (a &&& b) % 2 = a % 2 * (b % 2) := by
        have : (a &&& b) % 2 = (a % 2) &&& (b % 2) := by
          have := Nat.and_mod_two_pow (a := a) (b := b) (n := 1)
          simpa using this
        rw [this]
        rcases Nat.mod_two_eq_zero_or_one a with e | e <;> rcases Nat.mod_two_eq_zero_or_one b with f | f <;> rw [e, f] <;> rfl
      rcases Nat.mod_two_eq_zero_or_one a with e | e <;> rcases Nat.mod_two_eq_zero_or_one b with f | f <;> rw [e, f] at h4 h3 <;> simp only [Nat.zero_xor, Nat.xor_zero, Nat.xor_self, Nat.mul_zero, Nat.zero_mul, Nat.mul_one] at h3 h4 <;> omega
theorem bitXor_nat (a b : Nat) : Builtin.bitXor (a : Int) (b : Int) = ((a ^^^ b : Nat) : Int) := by
  have h := nat_xor_and a b
  have e : Builtin.bitAnd (a : Int) (b : Int) = ((a &&& b : Nat) : Int) := by
    unfold Builtin.bitAnd
    simp
  rw [bitXor_and, e]
  omega
theorem xor_high (x s : Nat) : x ^^^ (x / 2 ^ s * 2 ^ s) = x % 2 ^ s := by
  rw [← Nat.shiftRight_eq_div_pow, ← Nat.shiftLeft_eq]
  apply Nat.eq_of_testBit_eq
  intro i
  rw [Nat.testBit_xor, Nat.testBit_shiftLeft, Nat.testBit_shiftRight, Nat.testBit_mod_two_pow]
  by_cases h : s ≤ i
  · simp [h, Nat.not_lt.mpr h]
  · simp [h, Nat.lt_of_not_le h]
theorem intBits_le {x k : Nat} (h : x < 2 ^ k) : Builtin.Int.intBits (x : Int) ≤ k := by
  unfold Builtin.Int.intBits
  by_cases h0 : x = 0
  · subst h0; simp
  · have : ((x : Int) == 0) = false := by simpa using h0
    rw [this]
    simp only [Bool.false_eq_true, if_false, Int.natAbs_natCast]
    have := (Nat.log2_lt h0).mpr h
    omega
theorem fdiv_nat (a b : Nat) : (a : Int).fdiv (b : Int) = ((a / b : Nat) : Int) := by
  rw [Int.fdiv_eq_ediv_of_nonneg _ (Int.natCast_nonneg _)]
  rfl
theorem fdiv_pow (a k : Nat) : (a : Int).fdiv (2 ^ k) = ((a / 2 ^ k : Nat) : Int) := by
  rw [← fdiv_nat]
  simp
def digN (B : Nat) : Nat → Nat → List Nat
  | 0, _ => []
  | m + 1, x => (x % B) :: digN B m (x / B)
theorem digN_len (B : Nat) : ∀ m x, (digN B m x).length = m
  | 0, _ => rfl
  | m + 1, x => by unfold digN; rw [List.length_cons, digN_len B m]
theorem digN_add (B : Nat) (hB : 0 < B) : ∀ a b x, digN B (a + b) x = digN B a x ++ digN B b (x / B ^ a)
  | 0, b, x => by simp [digN]
  | a + 1, b, x => by
    rw [show a + 1 + b = (a + b) + 1 by omega, show digN B (a + b + 1) x = (x % B) :: digN B (a + b) (x / B) from rfl, show digN B (a + 1) x = (x % B) :: digN B a (x / B) from rfl]
    rw [digN_add B hB a b, List.cons_append, Nat.div_div_eq_div_mul, Nat.pow_succ, Nat.mul_comm (B ^ a) B]
theorem digN_mod (B : Nat) (hB : 0 < B) : ∀ a x, digN B a (x % B ^ a) = digN B a x
  | 0, _ => rfl
  | a + 1, x => by
    unfold digN
    have h1 : x % B ^ (a + 1) % B = x % B := Nat.mod_mod_of_dvd _ (by rw [Nat.pow_succ]; exact Nat.dvd_mul_left _ _)
    have h2 : x % B ^ (a + 1) / B = x / B % B ^ a := by
      rw [Nat.pow_succ, Nat.mul_comm, Nat.mod_mul_right_div_self]
    rw [h1, h2, digN_mod B hB a]
set_option linter.defProp false in
def ev := And.intro @xSeq.eq_1 <| And.intro @xIf.eq_1 <| And.intro @xAsg.eq_1 <| And.intro @xRet.eq_1 <| And.intro @xRet0.eq_1 <| And.intro @xExpr.eq_1 <| And.intro @xPass.eq_1 <| And.intro @xBrk.eq_1 <| And.intro @xAug.eq_1 <| And.intro @storeAll.eq_1 <| And.intro @storeAll.eq_2 <| And.intro @xFor.eq_1 <| And.intro @xWhile.eq_1 <| And.intro @xAsgComp.eq_1 <| And.intro @tAnd.eq_1 <| And.intro @tOr.eq_1 <| And.intro @tNot.eq_1 <| And.intro @tIte.eq_1 <| And.intro @tCmp.eq_1 <| And.intro @tVal.eq_1 <| And.intro @tTrue.eq_1 <| And.intro @tFalse.eq_1 <| And.intro @bVal.eq_1 <| And.intro @bLoc.eq_1 <| And.intro @bCell.eq_1 <| And.intro @bBin.eq_1 <| And.intro @bUn.eq_1 <| And.intro @bCmp.eq_1 <| And.intro @bIte.eq_1 <| And.intro @bAnd.eq_1 <| And.intro @bOr.eq_1 <| And.intro @bItem.eq_1 <| And.intro @bSlice.eq_1 <| And.intro @bList.eq_1 <| And.intro @bTup.eq_1 <| And.intro @lNil.eq_1 <| And.intro @lCons.eq_1 <| And.intro @kNil.eq_1 <| And.intro @kOne.eq_1 <| And.intro @bCall.eq_1 <| And.intro @bMeth.eq_1 <| And.intro @bComp.eq_1 <| And.intro @bAttr.eq_1 <| And.intro @gLoc.eq_1 <| And.intro @gCell.eq_1 <| And.intro @gItem.eq_1 <| And.intro @gAttr.eq_1 <| And.intro @gTup.eq_1 <| And.intro @gTup.eq_2 <| And.intro @gAll.eq_1 <| And.intro @gAll.eq_2 <| And.intro @gAll.eq_3 <| And.intro @iList.eq_1 <| And.intro @iCall.eq_1 <| And.intro @aiop.eq_1 <| And.intro @aiop.eq_2 <| And.intro @aiop.eq_3 <| And.intro @aiop.eq_4 <| And.intro @abin.eq_1 <| And.intro @abin.eq_2 <| And.intro @abin.eq_3 <| And.intro @abin.eq_4 <| And.intro @abin.eq_5 <| And.intro @abin.eq_6 <| And.intro @abin.eq_7 <| And.intro @abin.eq_8 <| And.intro @abin.eq_9 <| And.intro @abin.eq_10 <| And.intro @abin.eq_11 <| And.intro @abin.eq_12 <| And.intro @abin.eq_13 <| And.intro @abin.eq_14 <| And.intro @aun.eq_1 <| And.intro @aun.eq_2 <| And.intro @aun.eq_3 <| And.intro @aun.eq_4 <| And.intro @acmp.eq_1 <| And.intro @acmp.eq_2 <| And.intro @acmp.eq_3 <| And.intro @acmp.eq_4 <| And.intro @acmp.eq_5 <| And.intro @acmp.eq_6 <| And.intro @acmp.eq_7 <| And.intro @acmp.eq_8 <| And.intro @acmp.eq_9 <| And.intro @acmp.eq_10 <| And.intro @acmp.eq_11 <| And.intro @acmp.eq_12 <| And.intro @acmp.eq_13 <| And.intro @acmp.eq_14 <| And.intro @acmp.eq_15 <| And.intro @acmp.eq_16 <| And.intro @acmp.eq_17 <| And.intro @acmp.eq_18 <| And.intro @acmp.eq_19 <| And.intro @acmp.eq_20 <| And.intro @acmp.eq_21 <| And.intro @acmp.eq_22 <| And.intro @getA <| And.intro @getK <| And.intro @setA <| And.intro @setK <| And.intro @List.length_append.{0} <| And.intro @List.length_cons.{0} <| And.intro @List.length_nil.{0} <| And.intro @List.length_set.{0} <| And.intro @List.append_assoc.{0} <| And.intro @List.cons_append.{0} <| And.intro @List.nil_append.{0} <| And.intro @List.getElem?_cons_zero.{0} <| And.intro @List.getElem?_cons_succ.{0} <| And.intro @List.set_cons_zero.{0} <| And.intro @List.set_cons_succ.{0} <| And.intro @List.getElem?_nil.{0} <| And.intro @Option.bind_some.{0, 0} <| And.intro @Option.map_some.{0, 0} <| And.intro @Option.bind_none.{0, 0} <| And.intro @Option.map_none.{0, 0} <| And.intro @Nat.zero_add <| And.intro @Nat.add_zero <| And.intro @Nat.add_assoc <| And.intro @if_true.{1} <| And.intro @if_false.{1} <| And.intro @eq_self.{1} <| And.intro @Bool.not_true <| And.intro @Bool.not_false <| And.intro @Bool.false_eq_true <| And.intro @decide_true <| And.intro @decide_false <| And.intro @and_true <| And.intro @true_and <| And.intro @and_false <| And.intro @false_and <| And.intro @List.map_cons.{0, 0} <| @List.map_nil.{0, 0}
section
variable {q : CallF} {r : MethF} {st : St}
theorem c_old {a : Addr} {args : List AV} {kw : List (Str × AV)} : cOr blts q (.old a) args kw st = q (.old a) args kw st := rfl
theorem c_ref {a : Nat} {args : List AV} {kw : List (Str × AV)} : cOr blts q (.ref a) args kw st = q (.ref a) args kw st := rfl
theorem cor_l {a b : CallF} {f : AV} {args : List AV} {kw : List (Str × AV)} {x : AV × St} (h : a f args kw st = some x) : cOr a b f args kw st = some x := by unfold cOr; rw [h]
theorem cor_r {a b : CallF} {f : AV} {args : List AV} {kw : List (Str × AV)} {x : Option (AV × St)} (h : a f args kw st = none) (h2 : b f args kw st = x) : cOr a b f args kw st = x := by unfold cOr; rw [h]; exact h2
theorem c_len {s : Str} (h : s.length ≤ 1000000) : cOr blts q (.blt "len") [.str s] [] st = some (.int s.length, st) := cor_l (cor_l (if_pos h))
theorem c_min {a b : Int} : cOr blts q (.blt "min") [.int a, .int b] [] st = some (.int (if b < a then b else a), st) := rfl
theorem c_lower {s : Str} (h : s.length ≤ 1000) : cOr blts q (.blt "str.lower") [.str s] [] st = some (.str (Txt.lower s), st) := cor_l (cor_r rfl (cor_r rfl (cor_r rfl (cor_r rfl (cor_r rfl (cor_r rfl (cor_r rfl (cor_r rfl (cor_l (if_pos h)))))))))) 
theorem m_lower {s : Str} : mOr mStr r (.str s) (⟨#[108, 111, 119, 101, 114]⟩ : Str) st = some (.blt "str.lower", [.str s]) := rfl
end
def nmSub : List Str := ["ch_a", "ch_b"]
def subAct (c : CallF) (m : MethF) : Act AFlow := (xSeq (xIf (tCmp .Eq (bLoc nmSub 0) (bLoc nmSub 1)) (xSeq (xRet (bVal (.int 0)))
  xPass) xPass)
  (xSeq (xIf (tCmp .Eq (bMeth c m (bLoc nmSub 0) (⟨#[108, 111, 119, 101, 114]⟩ : Str) lNil kNil) (bMeth c m (bLoc nmSub 1) (⟨#[108, 111, 119, 101, 114]⟩ : Str) lNil kNil)) (xSeq (xRet (bVal (.int 1)))
  xPass) xPass)
  (xSeq (xRet (bVal (.int 2)))
  xPass)))
def subF (x y : Str) : Int := if x = y then 0 else if Txt.lower x = Txt.lower y then 1 else 2
theorem sub_run {q : CallF} {r : MethF} {L : St} {code : Value} {x y : Str} (hx : x.length ≤ 1000) (hy : y.length ≤ 1000) :
    ∃ g, subAct (cOr blts q) (mOr mStr r) ⟨L.length, [], code⟩ (L ++ [.ns nmSub [some (.str x), some (.str y)]]) = some (.ret (.int (subF x y)), L ++ g) := by
  refine ⟨[.ns nmSub [some (.str x), some (.str y)]], ?_⟩
  unfold subF subAct
  by_cases h1 : x = y
  · simp only [ev, ↓reduceIte, Nat.reduceAdd, reduceCtorEq, h1]
  · by_cases h2 : Txt.lower x = Txt.lower y
    · simp only [ev, ↓reduceIte, Nat.reduceAdd, reduceCtorEq, h1, h2, m_lower, c_lower hx, c_lower hy]
    · simp only [ev, ↓reduceIte, Nat.reduceAdd, reduceCtorEq, h1, h2, m_lower, c_lower hx, c_lower hy]
def sx (l : List Nat) : Str := ⟨l.toArray⟩
theorem sx_len (l : List Nat) : (sx l).length = l.length := by unfold sx Str.length; simp
theorem sx_inj {l m : List Nat} : (sx l = sx m) ↔ l = m := by
  unfold sx
  constructor
  · intro h
    have := congrArg (fun s : Str => s.cps.toList) h
    simpa using this
  · rintro rfl; rfl
theorem sx_from {l : List Nat} {p : Nat} (h : p ≤ l.length) : Txt.slice (sx l) (some (p : Int)) none = sx (l.drop p) := by
  rw [slice_from_eq (b := ((sx l).length : Int)) (Int.natCast_nonneg _) (by rw [sx_len]; exact Int.ofNat_le.mpr h) rfl]
  unfold sx Str.length
  simp only [List.size_toArray, Int.toNat_natCast]
  congr 2
  rw [show ((l.length : Int) - p).toNat = l.length - p by omega]
  exact List.take_of_length_le (by simp)
theorem sx_whole (l : List Nat) : Txt.slice (sx l) none none = sx l := by
  have h := sx_from (l := l) (p := 0) (Nat.zero_le _)
  have e : Txt.slice (sx l) none none = Txt.slice (sx l) (some ((0 : Nat) : Int)) none := by
    unfold Txt.slice Builtin.Str.strSliceIndices
    simp
    rw [show max (0 : Int) (min 0 ((sx l).length : Int)) = 0 by omega]
  rw [e, h]; rfl
theorem sx_to {l : List Nat} {p : Nat} (h : p ≤ l.length) : Txt.slice (sx l) none (some (p : Int)) = sx (l.take p) := by
  have := slice_closes_to (x := sx l) (j := (p : Int)) ⟨Int.natCast_nonneg _, by
    have := sx_len l
    unfold Str.length at this
    simp only [Array.length_toList]
    rw [this]; exact Int.ofNat_le.mpr h⟩
  rw [eq_of_beq this]
  unfold sx
  simp
theorem sx_to_neg {l : List Nat} {k : Nat} (h0 : 0 < k) (h : k ≤ l.length) : Txt.slice (sx l) none (some (-(k : Int))) = sx (l.take (l.length - k)) := by
  have e : Txt.slice (sx l) none (some (-(k : Int))) = Txt.slice (sx l) none (some ((l.length - k : Nat) : Int)) := by
    unfold Txt.slice
    rw [StrLaws.sliceIdx_neg_hi none (sx l).length (j := -(k : Int)) (by omega) (by rw [sx_len]; omega), sx_len, show (-(k : Int) + (l.length : Int)) = ((l.length - k : Nat) : Int) by omega]
  rw [e, sx_to (by omega)]
theorem aslice_from {l : List Nat} {p : Nat} {st : St} (h : p ≤ l.length) (h2 : l.length ≤ 1000) : aslice (.str (sx l)) (.int (p : Int)) .none st = some (.str (sx (l.drop p)), st) := by
  unfold aslice partOf
  simp only [Option.bind_some, sx_len, h2, if_true, sx_from h]
theorem aslice_all {l : List Nat} {st : St} (h2 : l.length ≤ 1000) : aslice (.str (sx l)) .none .none st = some (.str (sx l), st) := by
  unfold aslice partOf
  simp only [Option.bind_some, sx_len, h2, if_true, sx_whole]
theorem aslice_neg {l : List Nat} {k : Nat} {st : St} (h0 : 0 < k) (h : k ≤ l.length) (h2 : l.length ≤ 1000) : aslice (.str (sx l)) .none (.int (-(k : Int))) st = some (.str (sx (l.take (l.length - k))), st) := by
  unfold aslice partOf
  simp only [Option.bind_some, sx_len, h2, if_true, sx_to_neg h0 h]
theorem aitem_sx {l : List Nat} {i c : Nat} {st : St} (h : l[i]? = some c) (h2 : l.length ≤ 1000) : aitem (.str (sx l)) (.int (i : Int)) st = some (.str (sx [c]), st) := by
  have hlt := (List.getElem?_eq_some_iff.mp h).1
  have h1 : (-(2 ^ 60) < (i : Int) ∧ (i : Int) < 2 ^ 60) := by omega
  unfold aitem
  dsimp only
  rw [if_pos h1, sx_len]
  have : seqIndex? (i : Int) l.length = some i := by
    unfold seqIndex?
    have a : ¬ ((i : Int) < 0) := by omega
    have b : (0 : Int) ≤ (i : Int) := by omega
    have c : (i : Int) < (l.length : Int) := by omega
    simp [a, b, c, hlt]
  rw [this]
  unfold sx
  simp [h]
theorem aitem_sx_neg {l : List Nat} {i c : Nat} {st : St} (h : l[l.length - i]? = some c) (h0 : 0 < i) (h1 : i ≤ l.length) (h2 : l.length ≤ 1000) : aitem (.str (sx l)) (.int (-(i : Int))) st = some (.str (sx [c]), st) := by
  have h3 : (-(2 ^ 60) < (-(i : Int)) ∧ (-(i : Int)) < 2 ^ 60) := by omega
  unfold aitem
  dsimp only
  rw [if_pos h3, sx_len]
  have : seqIndex? (-(i : Int)) l.length = some (l.length - i) := by
    unfold seqIndex?
    have a : (-(i : Int) < 0) := by omega
    have b : (0 : Int) ≤ -(i : Int) + (l.length : Int) := by omega
    have c : -(i : Int) + (l.length : Int) < (l.length : Int) := by omega
    have e : (-(i : Int) + (l.length : Int)).toNat = l.length - i := by omega
    simp only [a, if_true, b, c, decide_true, Bool.and_self, e]
  rw [this]
  unfold sx
  simp [h]
theorem atru_sx {l : List Nat} {st : St} (h2 : l.length ≤ 1000) : atru (.str (sx l)) st = some (!decide (l = [])) := by
  unfold atru
  simp only [sx_len, h2, if_true]
  cases l <;> simp
def nmLev : List Str := ["a", "b", "max_cost", "pre", "post", "row", "result", "bindex", "bchar", "distance", "minimum", "index", "substitute", "insert_delete"]
def levIn (aS : Addr) (c : CallF) : Act AFlow := (xSeq (xAsg (bBin .Add (bLoc nmLev 9) (bCall c (bVal (.old aS)) (lCons (bLoc nmLev 8) (lCons (bItem (bLoc nmLev 0) (bLoc nmLev 11)) lNil)) kNil)) [(gLoc nmLev 12)])
  (xSeq (xAsg (bItem (bLoc nmLev 5) (bLoc nmLev 11)) [(gLoc nmLev 9)])
  (xSeq (xAsg (bBin .Add (bCall c (bVal (.blt "min")) (lCons (bLoc nmLev 6) (lCons (bLoc nmLev 9) lNil)) kNil) (bVal (.int 2))) [(gLoc nmLev 13)])
  (xSeq (xAsg (bCall c (bVal (.blt "min")) (lCons (bLoc nmLev 13) (lCons (bLoc nmLev 12) lNil)) kNil) [(gLoc nmLev 6)])
  (xSeq (xAsg (bLoc nmLev 6) [(gItem (bLoc nmLev 5) (bLoc nmLev 11))])
  (xSeq (xIf (tCmp .Lt (bLoc nmLev 6) (bLoc nmLev 10)) (xSeq (xAsg (bLoc nmLev 6) [(gLoc nmLev 10)])
  xPass) xPass)
  xPass))))))
def levOut (aS : Addr) (c : CallF) : Act AFlow := (xSeq (xAsg (bItem (bLoc nmLev 1) (bLoc nmLev 7)) [(gLoc nmLev 8)])
  (xSeq (xAsg (bBin .Mult (bLoc nmLev 7) (bVal (.int 2))) [(gLoc nmLev 9), (gLoc nmLev 6)])
  (xSeq (xAsg (bVal (.int 9223372036854775807)) [(gLoc nmLev 10)])
  (xSeq (xFor (iCall (bVal (.typ "range")) (lCons (bCall c (bVal (.blt "len")) (lCons (bLoc nmLev 0) lNil) kNil) lNil)) (gLoc nmLev 11) (levIn aS c) xPass)
  (xSeq (xIf (tCmp .Gt (bLoc nmLev 10) (bLoc nmLev 2)) (xSeq (xRet (bBin .Add (bLoc nmLev 2) (bVal (.int 1))))
  xPass) xPass)
  xPass)))))
def levS (a b : List Nat) (m pre post : Int) (k : Nat) (res : Int) (bi bch dist mini idx sub ins : Option AV) (rw : List Int) : St :=
  [.ns nmLev [some (.str (sx a)), some (.str (sx b)), some (.int m), some (.int pre), some (.int post), some (.ref k), some (.int res), bi, bch, dist, mini, idx, sub, ins], .list (rw.map AV.int)]
def min2 (a b : Int) : Int := if b < a then b else a
def lrow (sc : Nat → Int) : List Nat → List Int → Int → Int → Int → List Int × Int × Int
  | x :: a, r :: row, dist, res, mini =>
    let res' := min2 (min2 res r + 2) (dist + sc x)
    let t := lrow sc a row r res' (if res' < mini then res' else mini)
    (res' :: t.1, t.2)
  | _, _, _, res, mini => ([], res, mini)
theorem set_mid {xs ys : List Int} {r z : Int} : ((xs ++ r :: ys).map AV.int).set xs.length (.int z) = (xs ++ z :: ys).map AV.int := by
  rw [List.map_append, List.map_append, List.set_append_right _ _ (by simp)]
  simp
theorem get_mid {xs ys : List Int} {r : Int} : ((xs ++ r :: ys).map AV.int)[xs.length]? = some (.int r) := by
  simp
theorem seqT {a b : Act AFlow} {ae : AEnv} {st st1 : St} {r : Option (AFlow × St)} (h : a ae st = some (.next, st1)) (h2 : b ae st1 = r) : xSeq a b ae st = r := by
  unfold xSeq
  rw [h]
  exact h2
theorem seqR {a b : Act AFlow} {ae : AEnv} {st st1 : St} {v : AV} (h : a ae st = some (.ret v, st1)) : xSeq a b ae st = some (.ret v, st1) := by
  unfold xSeq
  rw [h]
  rfl
theorem for_next {it : It} {t : TAct} {b o : Act AFlow} {ae : AEnv} {n i : Nat} {st st1 st2 : St} {x : AV} {r : Option (AFlow × St)} (h1 : inext it i st = some (some x)) (h2 : t x ae st = some st1) (h3 : b ae st1 = some (.next, st2)) (h4 : forGo it t b o ae n (i + 1) st2 = r) : forGo it t b o ae (n + 1) i st = r := by
  unfold forGo
  rw [h1, Option.bind_some]
  dsimp only
  rw [h2, Option.bind_some, h3, Option.bind_some]
  exact h4
theorem for_ret {it : It} {t : TAct} {b o : Act AFlow} {ae : AEnv} {n i : Nat} {st st1 st2 : St} {x v : AV} (h1 : inext it i st = some (some x)) (h2 : t x ae st = some st1) (h3 : b ae st1 = some (.ret v, st2)) : forGo it t b o ae (n + 1) i st = some (.ret v, st2) := by
  unfold forGo
  rw [h1, Option.bind_some]
  dsimp only
  rw [h2, Option.bind_some, h3, Option.bind_some]
theorem for_end {it : It} {t : TAct} {b o : Act AFlow} {ae : AEnv} {n i : Nat} {st : St} {r : Option (AFlow × St)} (h1 : inext it i st = some none) (h2 : o ae st = r) : forGo it t b o ae (n + 1) i st = r := by
  unfold forGo
  rw [h1, Option.bind_some]
  exact h2
theorem while_next {t : Act Bool} {b o : Act AFlow} {ae : AEnv} {n : Nat} {st st1 st2 : St} {r : Option (AFlow × St)} (h1 : t ae st = some (true, st1)) (h2 : b ae st1 = some (.next, st2)) (h3 : whileGo t b o ae n st2 = r) : whileGo t b o ae (n + 1) st = r := by
  rw [whileGo]
  rw [h1, Option.bind_some]
  simp only [if_true]
  rw [h2, Option.bind_some]
  exact h3
theorem while_end {t : Act Bool} {b o : Act AFlow} {ae : AEnv} {n : Nat} {st st1 : St} {r : Option (AFlow × St)} (h1 : t ae st = some (false, st1)) (h2 : o ae st1 = r) : whileGo t b o ae (n + 1) st = r := by
  rw [whileGo]
  rw [h1, Option.bind_some]
  exact h2
theorem inext_rng {n i : Nat} {st : St} (h : i < n) : inext (.rng 0 1 n) i st = some (some (.int (i : Int))) := by
  unfold inext
  dsimp only
  rw [if_pos h]
  simp
theorem inext_rng_end {n i : Nat} {a c : Int} {st : St} (h : n ≤ i) : inext (.rng a c n) i st = some none := by
  unfold inext
  dsimp only
  rw [if_neg (by omega)]
theorem rng_nat {n : Nat} (h : n ≤ 1000000) : rngOf [.int (n : Int)] = some (0, (n : Int), 1) ∧ (Builtin.Range.rangeSize 0 (n : Int) 1).toNat = n := by
  have e : Builtin.Range.rangeSize 0 (n : Int) 1 = (n : Int) := by rw [rangeSize_nat]; omega
  refine ⟨?_, by rw [e]; simp⟩
  unfold rngOf
  dsimp only
  rw [if_pos ⟨small_one (by omega) (by omega) (by omega) (by omega), by omega⟩]
theorem rng_two : ∀ n : Fin 9, rngOf [.int 2, .int (2 * ((n.val : Int) + 1)), .int 2] = some (2, 2 * ((n.val : Int) + 1), 2) ∧ (Builtin.Range.rangeSize 2 (2 * ((n.val : Int) + 1)) 2 ≤ 1000000) ∧ (Builtin.Range.rangeSize 2 (2 * ((n.val : Int) + 1)) 2).toNat = n := by decide +kernel
section
variable {q : CallF} {L : St} {code : Value} {aS : Addr} {sc : Nat → Nat → Int}
theorem levIn_one (hs : ∀ x y st, q (.old aS) [.str (sx [x]), .str (sx [y])] [] st = some (.int (sc x y), st)) {a b : List Nat} {m pre post res dist mini : Int} {bi sub ins : Option AV} {bc x : Nat} {rd rr : List Int} {r : Int}
    (hx : a[rd.length]? = some x) (ha : a.length ≤ 1000) :
    levIn aS (cOr blts q) ⟨L.length, [], code⟩ (L ++ levS a b m pre post (L.length + 1) res bi (some (.str (sx [bc]))) (some (.int dist)) (some (.int mini)) (some (.int (rd.length : Int))) sub ins (rd ++ r :: rr)) =
      some (.next, L ++ levS a b m pre post (L.length + 1) (min2 (min2 res r + 2) (dist + sc bc x)) bi (some (.str (sx [bc]))) (some (.int r)) (some (.int (if min2 (min2 res r + 2) (dist + sc bc x) < mini then min2 (min2 res r + 2) (dist + sc bc x) else mini))) (some (.int (rd.length : Int)))
        (some (.int (dist + sc bc x))) (some (.int (min2 res r + 2))) (rd ++ min2 (min2 res r + 2) (dist + sc bc x) :: rr)) := by
  have hlt := (List.getElem?_eq_some_iff.mp hx).1
  have h1 : ((rd.length : Int) < 2 ^ 60) := by omega
  have h2 : (rd.length : Int) < ((rd.length + (rr.length + 1) : Nat) : Int) := by omega
  have h3 : ∀ st, aitem (.str (sx a)) (.int (rd.length : Int)) st = some (.str (sx [x]), st) := fun st => aitem_sx hx ha
  have h4 : (0 ≤ (rd.length : Int) ∧ (rd.length : Int) < 2 ^ 60) = True := eq_true ⟨by omega, h1⟩
  have h5 : (0 ≤ (rd.length : Int) ∧ (rd.length : Int) < 2 ^ 60 ∧ (rd.length : Int) < (((rd ++ r :: rr).map AV.int).length : Int)) = True := eq_true ⟨by omega, h1, by simp; omega⟩
  unfold levIn levS
  refine seqT (by simp -implicitDefEqProofs only [ev, ↓reduceIte, Nat.reduceAdd, reduceCtorEq, c_old, hs, h3]; try rfl) ?_
  refine seqT (by simp -implicitDefEqProofs only [ev, ↓reduceIte, Nat.reduceAdd, reduceCtorEq, aitem, seqAt, h4, Int.toNat_natCast, get_mid]; try rfl) ?_
  refine seqT (by simp -implicitDefEqProofs only [ev, ↓reduceIte, Nat.reduceAdd, reduceCtorEq, c_min]; try rfl) ?_
  refine seqT (by simp -implicitDefEqProofs only [ev, ↓reduceIte, Nat.reduceAdd, reduceCtorEq, c_min]; try rfl) ?_
  refine seqT (by simp -implicitDefEqProofs only [ev, ↓reduceIte, Nat.reduceAdd, reduceCtorEq, asetitem, h5, Int.toNat_natCast, set_mid]; try rfl) ?_
  refine seqT ?_ rfl
  by_cases hc : min2 (min2 res r + 2) (dist + sc bc x) < mini
  · have hc' : (if (if dist + sc bc x < (if r < res then r else res) + 2 then dist + sc bc x else (if r < res then r else res) + 2) < mini then 1 else 0) = 1 := if_pos hc
    unfold min2 at *
    simp -implicitDefEqProofs only [ev, ↓reduceIte, Nat.reduceAdd, reduceCtorEq, hc]
  · unfold min2 at *
    simp -implicitDefEqProofs only [ev, ↓reduceIte, Nat.reduceAdd, reduceCtorEq, hc]
theorem levIn_loop (hs : ∀ x y st, q (.old aS) [.str (sx [x]), .str (sx [y])] [] st = some (.int (sc x y), st)) {a b : List Nat} {m pre post : Int} {bi : Option AV} {bc : Nat} (ha : a.length ≤ 1000) :
    ∀ (ar : List Nat) (rr rd : List Int) (fuel : Nat) (dist res mini : Int) (idx sub ins : Option AV), a.drop rd.length = ar → ar.length = rr.length → ar.length < fuel → ∃ dist' idx' sub' ins',
      forGo (.rng 0 1 a.length) (gLoc nmLev 11) (levIn aS (cOr blts q)) xPass ⟨L.length, [], code⟩ fuel rd.length (L ++ levS a b m pre post (L.length + 1) res bi (some (.str (sx [bc]))) (some (.int dist)) (some (.int mini)) idx sub ins (rd ++ rr)) =
      some (.next, L ++ levS a b m pre post (L.length + 1) (lrow (sc bc) ar rr dist res mini).2.1 bi (some (.str (sx [bc]))) dist' (some (.int (lrow (sc bc) ar rr dist res mini).2.2)) idx' sub' ins' (rd ++ (lrow (sc bc) ar rr dist res mini).1)) := by
  intro ar
  induction ar with
  | nil =>
    intro rr rd fuel dist res mini idx sub ins hd hl hf
    obtain ⟨f, rfl⟩ : ∃ f, fuel = f + 1 := ⟨fuel - 1, by omega⟩
    have : rr = [] := List.eq_nil_of_length_eq_zero hl.symm
    subst this
    refine ⟨some (.int dist), idx, sub, ins, ?_⟩
    exact for_end (inext_rng_end (List.drop_eq_nil_iff.mp hd)) rfl
  | cons x ar ih =>
    intro rr rd fuel dist res mini idx sub ins hd hl hf
    obtain ⟨f, rfl⟩ : ∃ f, fuel = f + 1 := ⟨fuel - 1, by omega⟩
    cases rr with
    | nil => simp at hl
    | cons r rr =>
      have hx : a[rd.length]? = some x := by
        have := congrArg (·[0]?) hd
        simpa using this
      have hlt := (List.getElem?_eq_some_iff.mp hx).1
      obtain ⟨dist', idx', sub', ins', h⟩ := ih rr (rd ++ [min2 (min2 res r + 2) (dist + sc bc x)]) f r (min2 (min2 res r + 2) (dist + sc bc x)) (if min2 (min2 res r + 2) (dist + sc bc x) < mini then min2 (min2 res r + 2) (dist + sc bc x) else mini) (some (.int (rd.length : Int)))
        (some (.int (dist + sc bc x))) (some (.int (min2 res r + 2))) (by
          have := congrArg (List.drop 1) hd
          simpa [List.drop_drop, Nat.add_comm] using this) (by simpa using hl) (by simp at hf; omega)
      refine ⟨dist', idx', sub', ins', for_next (inext_rng hlt) (st1 := L ++ levS a b m pre post (L.length + 1) res bi (some (.str (sx [bc]))) (some (.int dist)) (some (.int mini)) (some (.int (rd.length : Int))) sub ins (rd ++ r :: rr)) ?_ (levIn_one hs hx ha) ?_⟩
      · unfold levS
        simp -implicitDefEqProofs only [ev, ↓reduceIte, Nat.reduceAdd, reduceCtorEq]
      · simp only [List.append_assoc, List.singleton_append, List.length_append, List.length_cons, List.length_nil, Nat.zero_add] at h
        exact h
def ltab (sc : Nat → Nat → Int) (m : Int) (a : List Nat) : List Nat → Int → List Int → Int → Int
  | [], _, _, res => res
  | y :: b, i, row, _ =>
    let t := lrow (sc y) a row (i * 2) (i * 2) 9223372036854775807
    if t.2.2 > m then m + 1 else ltab sc m a b (i + 1) t.1 t.2.1
theorem lrow_len (f : Nat → Int) : ∀ (a : List Nat) (row : List Int) (d r mi : Int), a.length = row.length → (lrow f a row d r mi).1.length = a.length
  | [], _, _, _, _, _ => rfl
  | x :: a, [], _, _, _, h => by simp at h
  | x :: a, r :: row, _, _, _, h => by
    unfold lrow
    simp only [List.length_cons]
    rw [lrow_len f a row _ _ _ (by simpa using h)]
theorem levOut_one (hs : ∀ x y st, q (.old aS) [.str (sx [x]), .str (sx [y])] [] st = some (.int (sc x y), st)) {a b : List Nat} {m pre post res : Int} {bch dist mini idx sub ins : Option AV} {y i : Nat} {row : List Int} (ha : a.length ≤ 1000) (hb : b.length ≤ 1000) (hy : b[i]? = some y) (hl : a.length = row.length) :
    ∃ bch' dist' mini' idx' sub' ins' fl, levOut aS (cOr blts q) ⟨L.length, [], code⟩ (L ++ levS a b m pre post (L.length + 1) res (some (.int (i : Int))) bch dist mini idx sub ins row) =
      some (fl, L ++ levS a b m pre post (L.length + 1) (lrow (sc y) a row ((i : Int) * 2) ((i : Int) * 2) 9223372036854775807).2.1 (some (.int (i : Int))) bch' dist' mini' idx' sub' ins' (lrow (sc y) a row ((i : Int) * 2) ((i : Int) * 2) 9223372036854775807).1) ∧
      fl = if (lrow (sc y) a row ((i : Int) * 2) ((i : Int) * 2) 9223372036854775807).2.2 > m then .ret (.int (m + 1)) else .next := by
  have h3 : ∀ st, aitem (.str (sx b)) (.int (i : Int)) st = some (.str (sx [y]), st) := fun st => aitem_sx hy hb
  have hsm : ∀ z, (small z || small 2) = true := fun z => by
    have : small 2 = true := by decide
    rw [this, Bool.or_true]
  have hlen : (sx a).length ≤ 1000000 := by rw [sx_len]; omega
  obtain ⟨dist', idx', sub', ins', h⟩ := levIn_loop (L := L) (code := code) hs (b := b) (m := m) (pre := pre) (post := post) (bi := some (.int (i : Int))) (bc := y) ha a row [] (a.length + 1) ((i : Int) * 2) ((i : Int) * 2) 9223372036854775807 idx sub ins rfl hl (Nat.lt_succ_self _)
  have hr := rng_nat (n := a.length) (by omega)
  refine ⟨some (.str (sx [y])), dist', some (.int (lrow (sc y) a row ((i : Int) * 2) ((i : Int) * 2) 9223372036854775807).2.2), idx', sub', ins', _, ?_, rfl⟩
  unfold levOut levS
  refine seqT (by simp -implicitDefEqProofs only [ev, ↓reduceIte, Nat.reduceAdd, reduceCtorEq, h3]; try rfl) ?_
  refine seqT (by simp -implicitDefEqProofs only [ev, ↓reduceIte, Nat.reduceAdd, reduceCtorEq, hsm]; try rfl) ?_
  refine seqT (by simp -implicitDefEqProofs only [ev, ↓reduceIte, Nat.reduceAdd, reduceCtorEq]; try rfl) ?_
  refine seqT (st1 := L ++ levS a b m pre post (L.length + 1) (lrow (sc y) a row ((i : Int) * 2) ((i : Int) * 2) 9223372036854775807).2.1 (some (.int (i : Int))) (some (.str (sx [y]))) dist' (some (.int (lrow (sc y) a row ((i : Int) * 2) ((i : Int) * 2) 9223372036854775807).2.2)) idx' sub' ins' (lrow (sc y) a row ((i : Int) * 2) ((i : Int) * 2) 9223372036854775807).1) ?_ ?_
  · simp -implicitDefEqProofs only [ev, ↓reduceIte, Nat.reduceAdd, reduceCtorEq, iCall, c_len hlen, sx_len, hr.1, hr.2, isize]
    exact h
  · unfold levS
    by_cases hc : (lrow (sc y) a row ((i : Int) * 2) ((i : Int) * 2) 9223372036854775807).2.2 > m
    · simp -implicitDefEqProofs only [ev, ↓reduceIte, Nat.reduceAdd, reduceCtorEq, hc]
    · simp -implicitDefEqProofs only [ev, ↓reduceIte, Nat.reduceAdd, reduceCtorEq, hc]
end
def cpl : List Nat → List Nat → Nat
  | x :: a, y :: b => if x = y then cpl a b + 1 else 0
  | _, _ => 0
def alike : List Nat → List Nat → Bool
  | x :: _, y :: _ => decide (x = y)
  | _, _ => false
theorem cpl_of {a b : List Nat} : cpl a b = if alike a b = true then cpl (a.drop 1) (b.drop 1) + 1 else 0 := by
  cases a with
  | nil => rfl
  | cons x a =>
    cases b with
    | nil => rfl
    | cons y b =>
      show (if x = y then cpl a b + 1 else 0) = _
      by_cases h : x = y <;> simp [alike, h]
theorem alike_lt {a b : List Nat} {p : Nat} (h : alike (a.drop p) (b.drop p) = true) : p < a.length ∧ p < b.length := by
  constructor
  · apply Nat.lt_of_not_le
    intro hle
    rw [List.drop_eq_nil_of_le hle] at h
    cases h
  · apply Nat.lt_of_not_le
    intro hle
    rw [List.drop_eq_nil_of_le hle] at h
    cases hd : a.drop p with
    | nil => rw [hd] at h; cases h
    | cons x l => rw [hd] at h; cases h
theorem cpl_le : ∀ (a b : List Nat), cpl a b ≤ a.length ∧ cpl a b ≤ b.length
  | [], b => ⟨Nat.zero_le _, Nat.zero_le _⟩
  | x :: a, [] => ⟨Nat.zero_le _, Nat.zero_le _⟩
  | x :: a, y :: b => by
    unfold cpl
    have := cpl_le a b
    split
    · simp; omega
    · simp
def levP (sc : Nat → Nat → Int) (a b : List Nat) (m : Int) : Int :=
  if a = b then 0 else
  let a1 := a.drop (cpl a b)
  let b1 := b.drop (cpl a b)
  let k := cpl a1.reverse b1.reverse
  let a2 := a1.take (a1.length - k)
  let b2 := b1.take (b1.length - k)
  if a2 = [] ∨ b2 = [] then 2 * ((a2.length : Int) + (b2.length : Int))
  else if ((b2.length : Int) - (a2.length : Int)) * 2 > m then m + 1
  else ltab sc m a2 b2 0 (rangeInts 2 2 a2.length 0) 0
def levF0 (a b : List Nat) (m pre : Int) (post : Option AV) : St := [.ns nmLev [some (.str (sx a)), some (.str (sx b)), some (.int m), some (.int pre), post, none, none, none, none, none, none, none, none, none]]
def levPreT : Act Bool := (tAnd (tVal (bSlice (bLoc nmLev 0) (bLoc nmLev 3) (bVal .none))) (tAnd (tVal (bSlice (bLoc nmLev 1) (bLoc nmLev 3) (bVal .none))) (tAnd (tCmp .Eq (bItem (bLoc nmLev 0) (bLoc nmLev 3)) (bItem (bLoc nmLev 1) (bLoc nmLev 3))) tTrue)))
def levPostT : Act Bool := (tAnd (tVal (bSlice (bLoc nmLev 0) (bVal .none) (bOr (bLoc nmLev 4) (bVal .none)))) (tAnd (tVal (bSlice (bLoc nmLev 1) (bVal .none) (bOr (bLoc nmLev 4) (bVal .none)))) (tAnd (tCmp .Eq (bItem (bLoc nmLev 0) (bBin .Sub (bLoc nmLev 4) (bVal (.int 1)))) (bItem (bLoc nmLev 1) (bBin .Sub (bLoc nmLev 4) (bVal (.int 1))))) tTrue)))
theorem atru_neg {k : Nat} {st : St} (h : 0 < k) : atru (.int (-(k : Int))) st = some true := by
  unfold atru
  have : ¬ (-(k : Int) = 0) := by omega
  simp [this]
section
variable {q : CallF} {L : St} {code : Value} {aS : Addr} {sc : Nat → Nat → Int} {a b : List Nat} {m : Int} {post : Option AV}
theorem preT_eq {p : Nat} (ha : a.length ≤ 1000) (hb : b.length ≤ 1000) (hp : p ≤ a.length) (hq : p ≤ b.length) :
    levPreT ⟨L.length, [], code⟩ (L ++ levF0 a b m (p : Int) post) = some (alike (a.drop p) (b.drop p), L ++ levF0 a b m (p : Int) post) := by
  have la : (a.drop p).length ≤ 1000 := by simp; omega
  have lb : (b.drop p).length ≤ 1000 := by simp; omega
  have s1 := fun st => aslice_from (st := st) hp ha
  have s2 := fun st => aslice_from (st := st) hq hb
  have t1 := fun st => atru_sx (st := st) la
  have t2 := fun st => atru_sx (st := st) lb
  unfold levPreT levF0
  cases h1 : a.drop p with
  | nil =>
    rw [h1] at s1 t1
    simp -implicitDefEqProofs only [ev, ↓reduceIte, Nat.reduceAdd, reduceCtorEq, s1, t1, alike]
  | cons x a' =>
    rw [h1] at s1 t1
    cases h2 : b.drop p with
    | nil =>
      rw [h2] at s2 t2
      simp -implicitDefEqProofs only [ev, ↓reduceIte, Nat.reduceAdd, reduceCtorEq, s1, t1, s2, t2, alike]
    | cons y b' =>
      rw [h2] at s2 t2
      have hx : a[p]? = some x := by have := congrArg (·[0]?) h1; simpa using this
      have hy : b[p]? = some y := by have := congrArg (·[0]?) h2; simpa using this
      have i1 := fun st => aitem_sx (st := st) hx ha
      have i2 := fun st => aitem_sx (st := st) hy hb
      by_cases e : x = y
      · subst e
        simp -implicitDefEqProofs only [ev, ↓reduceIte, Nat.reduceAdd, reduceCtorEq, s1, t1, s2, t2, i1, i2, alike]
      · have e' : ¬ (sx [x] = sx [y]) := fun h => e (by simpa using sx_inj.mp h)
        simp -implicitDefEqProofs only [ev, ↓reduceIte, Nat.reduceAdd, reduceCtorEq, s1, t1, s2, t2, i1, i2, alike, e, e']
theorem pre_loop (ha : a.length ≤ 1000) (hb : b.length ≤ 1000) : ∀ (fuel p : Nat), p ≤ a.length → p ≤ b.length → cpl (a.drop p) (b.drop p) < fuel →
    whileGo levPreT (xSeq (xAug .Add (bLoc nmLev 3) (bVal (.int 1)) (gLoc nmLev 3)) xPass) xPass ⟨L.length, [], code⟩ fuel (L ++ levF0 a b m (p : Int) post) = some (.next, L ++ levF0 a b m ((p + cpl (a.drop p) (b.drop p) : Nat) : Int) post) := by
  intro fuel
  induction fuel with
  | zero => intro p _ _ h; omega
  | succ f ih =>
    intro p hp hq hf
    have hT := preT_eq (L := L) (code := code) (m := m) (post := post) ha hb hp hq
    rw [cpl_of] at hf ⊢
    cases hc : alike (a.drop p) (b.drop p) with
    | false =>
      rw [hc] at hT
      rw [if_neg (by simp)]
      exact while_end hT rfl
    | true =>
      rw [hc] at hT hf
      rw [if_pos rfl] at hf ⊢
      have := alike_lt hc
      have := ih (p + 1) (by omega) (by omega) (by simp only [List.drop_drop] at hf ⊢; omega)
      refine while_next hT (st2 := L ++ levF0 a b m ((p + 1 : Nat) : Int) post) ?_ ?_
      · unfold levF0
        simp -implicitDefEqProofs only [ev, ↓reduceIte, Nat.reduceAdd, reduceCtorEq, Int.natCast_add, Int.cast_ofNat_Int]
      · rw [this]
        simp only [List.drop_drop]
        rw [show p + 1 + cpl (List.drop (p + 1) a) (List.drop (p + 1) b) = p + (cpl (List.drop (p + 1) a) (List.drop (p + 1) b) + 1) by omega]
theorem take_rev {a : List Nat} {k : Nat} : a.take (a.length - k) = (a.reverse.drop k).reverse := by
  rw [List.drop_reverse, List.reverse_reverse]
theorem postT_eq {k : Nat} {pre : Int} (ha : a.length ≤ 1000) (hb : b.length ≤ 1000) (hp : k ≤ a.length) (hq : k ≤ b.length) :
    levPostT ⟨L.length, [], code⟩ (L ++ levF0 a b m pre (some (.int (-(k : Int))))) = some (alike (a.reverse.drop k) (b.reverse.drop k), L ++ levF0 a b m pre (some (.int (-(k : Int))))) := by
  have la : (a.take (a.length - k)).length ≤ 1000 := by simp; omega
  have lb : (b.take (b.length - k)).length ≤ 1000 := by simp; omega
  have ee : (-(k : Int) - 1) = -((k + 1 : Nat) : Int) := by omega
  have t1 := fun st => atru_sx (st := st) la
  have t2 := fun st => atru_sx (st := st) lb
  have key : ∀ (st : St), (atru (.int (-(k : Int))) st).bind (fun c => if c = true then some (AV.int (-(k : Int)), st) else some (AV.none, st)) = some (if k = 0 then .none else .int (-(k : Int)), st) := fun st => by
    by_cases h0 : k = 0
    · subst h0; rfl
    · rw [atru_neg (by omega)]; simp [h0]
  have s1 : ∀ st, aslice (.str (sx a)) .none (if k = 0 then .none else .int (-(k : Int))) st = some (.str (sx (a.take (a.length - k))), st) := fun st => by
    by_cases h0 : k = 0
    · subst h0; simp only [if_true, Nat.sub_zero, List.take_length]; exact aslice_all ha
    · rw [if_neg h0]; exact aslice_neg (by omega) hp ha
  have s2 : ∀ st, aslice (.str (sx b)) .none (if k = 0 then .none else .int (-(k : Int))) st = some (.str (sx (b.take (b.length - k))), st) := fun st => by
    by_cases h0 : k = 0
    · subst h0; simp only [if_true, Nat.sub_zero, List.take_length]; exact aslice_all hb
    · rw [if_neg h0]; exact aslice_neg (by omega) hq hb
  unfold levPostT levF0
  rw [take_rev] at s1 t1 s2 t2
  cases h1 : a.reverse.drop k with
  | nil =>
    rw [h1] at s1 t1
    simp only [List.reverse_nil] at s1 t1
    simp -implicitDefEqProofs only [ev, ↓reduceIte, Nat.reduceAdd, reduceCtorEq, key, s1, t1, alike]
  | cons x a' =>
    rw [h1] at s1 t1
    have n1 : ((x :: a').reverse = []) = False := by simp
    cases h2 : b.reverse.drop k with
    | nil =>
      rw [h2] at s2 t2
      simp only [List.reverse_nil] at s2 t2
      simp -implicitDefEqProofs only [ev, ↓reduceIte, Nat.reduceAdd, reduceCtorEq, key, s1, t1, s2, t2, alike, n1]
    | cons y b' =>
      rw [h2] at s2 t2
      have n2 : ((y :: b').reverse = []) = False := by simp
      have hk : k < a.length := by
        have := congrArg List.length h1; simp at this; omega
      have hk2 : k < b.length := by
        have := congrArg List.length h2; simp at this; omega
      have hx : a[a.length - (k + 1)]? = some x := by
        have := congrArg (·[0]?) h1
        rw [List.getElem?_drop, List.getElem?_reverse (by omega)] at this
        simpa [Nat.sub_sub, Nat.add_comm] using this
      have hy : b[b.length - (k + 1)]? = some y := by
        have := congrArg (·[0]?) h2
        rw [List.getElem?_drop, List.getElem?_reverse (by omega)] at this
        simpa [Nat.sub_sub, Nat.add_comm] using this
      have i1 := fun st => aitem_sx_neg (st := st) hx (by omega) (by omega) ha
      have i2 := fun st => aitem_sx_neg (st := st) hy (by omega) (by omega) hb
      by_cases e : x = y
      · subst e
        simp -implicitDefEqProofs only [ev, ↓reduceIte, Nat.reduceAdd, reduceCtorEq, key, s1, t1, s2, t2, n1, n2, ee, i1, i2, alike]
      · have e' : ¬ (sx [x] = sx [y]) := fun h => e (by simpa using sx_inj.mp h)
        simp -implicitDefEqProofs only [ev, ↓reduceIte, Nat.reduceAdd, reduceCtorEq, key, s1, t1, s2, t2, n1, n2, ee, i1, i2, alike, e, e']
theorem post_loop {pre : Int} (ha : a.length ≤ 1000) (hb : b.length ≤ 1000) : ∀ (fuel k : Nat), k ≤ a.length → k ≤ b.length → cpl (a.reverse.drop k) (b.reverse.drop k) < fuel →
    whileGo levPostT (xSeq (xAug .Sub (bLoc nmLev 4) (bVal (.int 1)) (gLoc nmLev 4)) xPass) xPass ⟨L.length, [], code⟩ fuel (L ++ levF0 a b m pre (some (.int (-(k : Int))))) = some (.next, L ++ levF0 a b m pre (some (.int (-((k + cpl (a.reverse.drop k) (b.reverse.drop k) : Nat) : Int))))) := by
  intro fuel
  induction fuel with
  | zero => intro p _ _ h; omega
  | succ f ih =>
    intro k hp hq hf
    have hT := postT_eq (L := L) (code := code) (m := m) (pre := pre) ha hb hp hq
    rw [cpl_of] at hf ⊢
    cases hc : alike (a.reverse.drop k) (b.reverse.drop k) with
    | false =>
      rw [hc] at hT
      rw [if_neg (by simp)]
      exact while_end hT rfl
    | true =>
      rw [hc] at hT hf
      rw [if_pos rfl] at hf ⊢
      have := alike_lt hc
      simp only [List.length_reverse] at this
      have := ih (k + 1) (by omega) (by omega) (by simp only [List.drop_drop] at hf ⊢; omega)
      refine while_next hT (st2 := L ++ levF0 a b m pre (some (.int (-((k + 1 : Nat) : Int))))) ?_ ?_
      · unfold levF0
        have ee : (-(k : Int) - 1) = -((k + 1 : Nat) : Int) := by omega
        simp -implicitDefEqProofs only [ev, ↓reduceIte, Nat.reduceAdd, reduceCtorEq, ee]
      · rw [this]
        simp only [List.drop_drop]
        rw [show k + 1 + cpl (List.drop (k + 1) a.reverse) (List.drop (k + 1) b.reverse) = k + (cpl (List.drop (k + 1) a.reverse) (List.drop (k + 1) b.reverse) + 1) by omega]
end
def levAct (aS : Addr) (loops : Nat) (c : CallF) : Act AFlow := (xSeq (xIf (tCmp .Eq (bLoc nmLev 0) (bLoc nmLev 1)) (xSeq (xRet (bVal (.int 0)))
  xPass) xPass)
  (xSeq (xAsg (bVal (.int 0)) [(gLoc nmLev 3)])
  (xSeq (xWhile loops levPreT (xSeq (xAug .Add (bLoc nmLev 3) (bVal (.int 1)) (gLoc nmLev 3))
  xPass) xPass)
  (xSeq (xAsg (bSlice (bLoc nmLev 0) (bLoc nmLev 3) (bVal .none)) [(gLoc nmLev 0)])
  (xSeq (xAsg (bSlice (bLoc nmLev 1) (bLoc nmLev 3) (bVal .none)) [(gLoc nmLev 1)])
  (xSeq (xAsg (bVal (.int 0)) [(gLoc nmLev 4)])
  (xSeq (xWhile loops levPostT (xSeq (xAug .Sub (bLoc nmLev 4) (bVal (.int 1)) (gLoc nmLev 4))
  xPass) xPass)
  (xSeq (xAsg (bSlice (bLoc nmLev 0) (bVal .none) (bOr (bLoc nmLev 4) (bVal .none))) [(gLoc nmLev 0)])
  (xSeq (xAsg (bSlice (bLoc nmLev 1) (bVal .none) (bOr (bLoc nmLev 4) (bVal .none))) [(gLoc nmLev 1)])
  (xSeq (xIf (tOr (tNot (tVal (bLoc nmLev 0))) (tOr (tNot (tVal (bLoc nmLev 1))) tFalse)) (xSeq (xRet (bBin .Mult (bVal (.int 2)) (bBin .Add (bCall c (bVal (.blt "len")) (lCons (bLoc nmLev 0) lNil) kNil) (bCall c (bVal (.blt "len")) (lCons (bLoc nmLev 1) lNil) kNil))))
  xPass) xPass)
  (xSeq (xIf (tOr (tCmp .Gt (bCall c (bVal (.blt "len")) (lCons (bLoc nmLev 0) lNil) kNil) (bVal (.int 40))) (tOr (tCmp .Gt (bCall c (bVal (.blt "len")) (lCons (bLoc nmLev 1) lNil) kNil) (bVal (.int 40))) tFalse)) (xSeq (xRet (bBin .Add (bLoc nmLev 2) (bVal (.int 1))))
  xPass) xPass)
  (xSeq (xIf (tCmp .Lt (bCall c (bVal (.blt "len")) (lCons (bLoc nmLev 1) lNil) kNil) (bCall c (bVal (.blt "len")) (lCons (bLoc nmLev 0) lNil) kNil)) (xSeq xFail
  xPass) xPass)
  (xSeq (xIf (tCmp .Gt (bBin .Mult (bBin .Sub (bCall c (bVal (.blt "len")) (lCons (bLoc nmLev 1) lNil) kNil) (bCall c (bVal (.blt "len")) (lCons (bLoc nmLev 0) lNil) kNil)) (bVal (.int 2))) (bLoc nmLev 2)) (xSeq (xRet (bBin .Add (bLoc nmLev 2) (bVal (.int 1))))
  xPass) xPass)
  (xSeq (xAsg (bListRange (bVal (.typ "list")) (bVal (.typ "range")) (lCons (bVal (.int 2)) (lCons (bBin .Mult (bVal (.int 2)) (bBin .Add (bCall c (bVal (.blt "len")) (lCons (bLoc nmLev 0) lNil) kNil) (bVal (.int 1)))) (lCons (bVal (.int 2)) lNil)))) [(gLoc nmLev 5)])
  (xSeq (xAsg (bVal (.int 0)) [(gLoc nmLev 6)])
  (xSeq (xFor (iCall (bVal (.typ "range")) (lCons (bCall c (bVal (.blt "len")) (lCons (bLoc nmLev 1) lNil) kNil) lNil)) (gLoc nmLev 7) (levOut aS c) xPass)
  (xSeq (xRet (bLoc nmLev 6))
  xPass)))))))))))))))))
section
variable {q : CallF} {L : St} {code : Value} {aS : Addr} {sc : Nat → Nat → Int} {a b : List Nat} {m : Int}
theorem levOut_loop (hs : ∀ x y st, q (.old aS) [.str (sx [x]), .str (sx [y])] [] st = some (.int (sc x y), st)) {pre post : Int} (ha : a.length ≤ 1000) (hb : b.length ≤ 1000) :
    ∀ (br : List Nat) (i fuel : Nat) (row : List Int) (res : Int) (bi bch dist mini idx sub ins : Option AV), b.drop i = br → a.length = row.length → br.length < fuel →
      (∃ g, forGo (.rng 0 1 b.length) (gLoc nmLev 7) (levOut aS (cOr blts q)) xPass ⟨L.length, [], code⟩ fuel i (L ++ levS a b m pre post (L.length + 1) res bi bch dist mini idx sub ins row) = some (.ret (.int (ltab sc m a br i row res)), L ++ g)) ∨
      (∃ bi' bch' dist' mini' idx' sub' ins' row', forGo (.rng 0 1 b.length) (gLoc nmLev 7) (levOut aS (cOr blts q)) xPass ⟨L.length, [], code⟩ fuel i (L ++ levS a b m pre post (L.length + 1) res bi bch dist mini idx sub ins row) =
        some (.next, L ++ levS a b m pre post (L.length + 1) (ltab sc m a br i row res) bi' bch' dist' mini' idx' sub' ins' row')) := by
  intro br
  induction br with
  | nil =>
    intro i fuel row res bi bch dist mini idx sub ins hd hl hf
    obtain ⟨f, rfl⟩ : ∃ f, fuel = f + 1 := ⟨fuel - 1, by omega⟩
    right
    exact ⟨bi, bch, dist, mini, idx, sub, ins, row, for_end (inext_rng_end (List.drop_eq_nil_iff.mp hd)) rfl⟩
  | cons y br ih =>
    intro i fuel row res bi bch dist mini idx sub ins hd hl hf
    obtain ⟨f, rfl⟩ : ∃ f, fuel = f + 1 := ⟨fuel - 1, by omega⟩
    have hy : b[i]? = some y := by
      have := congrArg (·[0]?) hd
      simpa using this
    have hlt := (List.getElem?_eq_some_iff.mp hy).1
    have hd' : b.drop (i + 1) = br := by
      have := congrArg (List.drop 1) hd
      simpa [List.drop_drop, Nat.add_comm] using this
    obtain ⟨bch', dist', mini', idx', sub', ins', fl, h1, h2⟩ := levOut_one (L := L) (code := code) (a := a) (b := b) (m := m) (pre := pre) (post := post) (res := res) (bch := bch) (dist := dist) (mini := mini) (idx := idx) (sub := sub) (ins := ins) (row := row) hs ha hb hy hl
    have hset : gLoc nmLev 7 (.int (i : Int)) ⟨L.length, [], code⟩ (L ++ levS a b m pre post (L.length + 1) res bi bch dist mini idx sub ins row) = some (L ++ levS a b m pre post (L.length + 1) res (some (.int (i : Int))) bch dist mini idx sub ins row) := by
      unfold levS
      simp -implicitDefEqProofs only [ev, ↓reduceIte, Nat.reduceAdd, reduceCtorEq]
    by_cases hc : (lrow (sc y) a row ((i : Int) * 2) ((i : Int) * 2) 9223372036854775807).2.2 > m
    · left
      rw [if_pos hc] at h2
      subst h2
      have e : ltab sc m a (y :: br) i row res = m + 1 := by
        rw [ltab]
        simp only [if_pos hc]
      rw [e]
      exact ⟨_, for_ret (inext_rng hlt) hset h1⟩
    · rw [if_neg hc] at h2
      subst h2
      have := ih (i + 1) f (lrow (sc y) a row ((i : Int) * 2) ((i : Int) * 2) 9223372036854775807).1 (lrow (sc y) a row ((i : Int) * 2) ((i : Int) * 2) 9223372036854775807).2.1 (some (.int (i : Int))) bch' dist' mini' idx' sub' ins' hd' (by rw [lrow_len _ _ _ _ _ _ hl]) (by simp at hf; omega)
      have e : ltab sc m a (y :: br) i row res = ltab sc m a br ((i : Int) + 1) (lrow (sc y) a row ((i : Int) * 2) ((i : Int) * 2) 9223372036854775807).1 (lrow (sc y) a row ((i : Int) * 2) ((i : Int) * 2) 9223372036854775807).2.1 := by
        rw [ltab]
        simp only [if_neg hc]
      rw [e]
      rcases this with ⟨g, h⟩ | ⟨bi2, bch2, dist2, mini2, idx2, sub2, ins2, row2, h⟩
      · exact .inl ⟨g, for_next (inext_rng hlt) hset h1 h⟩
      · exact .inr ⟨bi2, bch2, dist2, mini2, idx2, sub2, ins2, row2, for_next (inext_rng hlt) hset h1 h⟩
theorem lev_run (hs : ∀ x y st, q (.old aS) [.str (sx [x]), .str (sx [y])] [] st = some (.int (sc x y), st)) {loops : Nat} (hab : a.length ≤ b.length) (hb8 : b.length ≤ 8) (hl : 8 < loops) :
    ∃ g, levAct aS loops (cOr blts q) ⟨L.length, [], code⟩ (L ++ [.ns nmLev [some (.str (sx a)), some (.str (sx b)), some (.int m), none, none, none, none, none, none, none, none, none, none, none]]) = some (.ret (.int (levP sc a b m)), L ++ g) := by
  have ha : a.length ≤ 1000 := by omega
  have hb : b.length ≤ 1000 := by omega
  unfold levAct
  by_cases h0 : a = b
  · subst h0
    have e : levP sc a a m = 0 := by unfold levP; rw [if_pos rfl]
    rw [e]
    refine ⟨_, seqR (v := .int 0) (st1 := L ++ [.ns nmLev [some (.str (sx a)), some (.str (sx a)), some (.int m), none, none, none, none, none, none, none, none, none, none, none]]) ?_⟩
    simp -implicitDefEqProofs only [ev, ↓reduceIte, Nat.reduceAdd, reduceCtorEq]
  have h0' : ¬ (sx a = sx b) := fun h => h0 (sx_inj.mp h)
  have hc1 := cpl_le a b
  generalize hp : cpl a b = p at *
  have lp := pre_loop (L := L) (code := code) (m := m) (post := none) ha hb loops 0 (Nat.zero_le _) (Nat.zero_le _) (by simp only [List.drop_zero]; omega)
  simp only [List.drop_zero, Nat.zero_add, hp] at lp
  have ha1 : (a.drop p).length ≤ 1000 := by simp; omega
  have hb1 : (b.drop p).length ≤ 1000 := by simp; omega
  have hc2 := cpl_le (a.drop p).reverse (b.drop p).reverse
  simp only [List.length_reverse] at hc2
  have lq := post_loop (L := L) (code := code) (m := m) (pre := (p : Int)) ha1 hb1 loops 0 (Nat.zero_le _) (Nat.zero_le _) (by simp only [List.drop_zero]; simp at hc2 ⊢; omega)
  simp only [List.drop_zero, Nat.zero_add] at lq
  generalize hk : cpl (a.drop p).reverse (b.drop p).reverse = k at *
  refine Exists.imp (fun g h => seqT (st1 := L ++ [.ns nmLev [some (.str (sx a)), some (.str (sx b)), some (.int m), none, none, none, none, none, none, none, none, none, none, none]]) (by simp -implicitDefEqProofs only [ev, ↓reduceIte, Nat.reduceAdd, reduceCtorEq, h0']) h) ?_
  refine Exists.imp (fun g h => seqT (st1 := L ++ levF0 a b m ((0 : Nat) : Int) none) (by unfold levF0; simp -implicitDefEqProofs only [ev, ↓reduceIte, Nat.reduceAdd, reduceCtorEq, Int.ofNat_zero, Int.cast_ofNat_Int]) h) ?_
  refine Exists.imp (fun g h => seqT lp h) ?_
  have e1 := fun st => aslice_from (st := st) hc1.1 ha
  have e2 := fun st => aslice_from (st := st) hc1.2 hb
  refine Exists.imp (fun g h => seqT (st1 := L ++ levF0 (a.drop p) b m (p : Int) none) (by unfold levF0; simp -implicitDefEqProofs only [ev, ↓reduceIte, Nat.reduceAdd, reduceCtorEq, e1]) h) ?_
  refine Exists.imp (fun g h => seqT (st1 := L ++ levF0 (a.drop p) (b.drop p) m (p : Int) none) (by unfold levF0; simp -implicitDefEqProofs only [ev, ↓reduceIte, Nat.reduceAdd, reduceCtorEq, e2]) h) ?_
  refine Exists.imp (fun g h => seqT (st1 := L ++ levF0 (a.drop p) (b.drop p) m (p : Int) (some (.int (-((0 : Nat) : Int))))) (by unfold levF0; simp -implicitDefEqProofs only [ev, ↓reduceIte, Nat.reduceAdd, reduceCtorEq, Int.ofNat_zero, Int.cast_ofNat_Int, Int.neg_zero]) h) ?_
  refine Exists.imp (fun g h => seqT lq h) ?_
  have key : ∀ (st : St), (atru (.int (-(k : Int))) st).bind (fun c => if c = true then some (AV.int (-(k : Int)), st) else some (AV.none, st)) = some (if k = 0 then .none else .int (-(k : Int)), st) := fun st => by
    by_cases h0 : k = 0
    · subst h0; rfl
    · rw [atru_neg (by omega)]; simp [h0]
  have s1 : ∀ st, aslice (.str (sx (a.drop p))) .none (if k = 0 then .none else .int (-(k : Int))) st = some (.str (sx ((a.drop p).take ((a.drop p).length - k))), st) := fun st => by
    by_cases h0 : k = 0
    · subst h0; simp only [if_true, Nat.sub_zero, List.take_length]; exact aslice_all ha1
    · rw [if_neg h0]; exact aslice_neg (by omega) hc2.1 ha1
  have s2 : ∀ st, aslice (.str (sx (b.drop p))) .none (if k = 0 then .none else .int (-(k : Int))) st = some (.str (sx ((b.drop p).take ((b.drop p).length - k))), st) := fun st => by
    by_cases h0 : k = 0
    · subst h0; simp only [if_true, Nat.sub_zero, List.take_length]; exact aslice_all hb1
    · rw [if_neg h0]; exact aslice_neg (by omega) hc2.2 hb1
  have hv : levP sc a b m = if (a.drop p).take ((a.drop p).length - k) = [] ∨ (b.drop p).take ((b.drop p).length - k) = [] then 2 * ((((a.drop p).take ((a.drop p).length - k)).length : Int) + (((b.drop p).take ((b.drop p).length - k)).length : Int))
      else if ((((b.drop p).take ((b.drop p).length - k)).length : Int) - (((a.drop p).take ((a.drop p).length - k)).length : Int)) * 2 > m then m + 1
      else ltab sc m ((a.drop p).take ((a.drop p).length - k)) ((b.drop p).take ((b.drop p).length - k)) 0 (rangeInts 2 2 ((a.drop p).take ((a.drop p).length - k)).length 0) 0 := by
    unfold levP
    rw [if_neg h0]
    simp only [hp, hk]
  rw [hv]
  have hA : ((a.drop p).take ((a.drop p).length - k)).length ≤ ((b.drop p).take ((b.drop p).length - k)).length := by simp; omega
  have hB : ((b.drop p).take ((b.drop p).length - k)).length ≤ 8 := by simp; omega
  refine Exists.imp (fun g h => seqT (st1 := L ++ levF0 ((a.drop p).take ((a.drop p).length - k)) (b.drop p) m (p : Int) (some (.int (-(k : Int))))) (by unfold levF0; simp -implicitDefEqProofs only [ev, ↓reduceIte, Nat.reduceAdd, reduceCtorEq, key, s1]) h) ?_
  refine Exists.imp (fun g h => seqT (st1 := L ++ levF0 ((a.drop p).take ((a.drop p).length - k)) ((b.drop p).take ((b.drop p).length - k)) m (p : Int) (some (.int (-(k : Int))))) (by unfold levF0; simp -implicitDefEqProofs only [ev, ↓reduceIte, Nat.reduceAdd, reduceCtorEq, key, s2]) h) ?_
  generalize (a.drop p).take ((a.drop p).length - k) = A at *
  generalize (b.drop p).take ((b.drop p).length - k) = B at *
  clear lp lq e1 e2 s1 s2 key hv
  have tA := fun st => atru_sx (l := A) (st := st) (by omega)
  have tB := fun st => atru_sx (l := B) (st := st) (by omega)
  have lA : (sx A).length ≤ 1000000 := by rw [sx_len]; omega
  have lB : (sx B).length ≤ 1000000 := by rw [sx_len]; omega
  have hsm : ∀ z, (small 2 || small z) = true := fun z => by
    have : small 2 = true := by decide
    rw [this, Bool.true_or]
  have hsm2 : ∀ z, (small z || small 2) = true := fun z => by
    have : small 2 = true := by decide
    rw [this, Bool.or_true]
  by_cases hnil : A = [] ∨ B = []
  · rw [if_pos hnil]
    refine ⟨_, seqR (v := .int (2 * ((A.length : Int) + (B.length : Int)))) (st1 := L ++ levF0 A B m (p : Int) (some (.int (-(k : Int))))) ?_⟩
    unfold levF0
    by_cases hA0 : A = []
    · have dA : decide (A = []) = true := by simpa using hA0
      simp -implicitDefEqProofs only [ev, ↓reduceIte, Nat.reduceAdd, reduceCtorEq, tA, dA, c_len lA, c_len lB, sx_len, hsm]
    · have dA : decide (A = []) = false := by simpa using hA0
      have dB : decide (B = []) = true := by simpa using hnil.resolve_left hA0
      simp -implicitDefEqProofs only [ev, ↓reduceIte, Nat.reduceAdd, reduceCtorEq, tA, tB, dA, dB, c_len lA, c_len lB, sx_len, hsm]
  · rw [if_neg hnil]
    have dA : decide (A = []) = false := by simpa using fun e => hnil (.inl e)
    have dB : decide (B = []) = false := by simpa using fun e => hnil (.inr e)
    have d1 : decide ((A.length : Int) > 40) = false := by simp; omega
    have d2 : decide ((B.length : Int) > 40) = false := by simp; omega
    have d3 : decide ((B.length : Int) < (A.length : Int)) = false := by simp; omega
    refine Exists.imp (fun g h => seqT (st1 := L ++ levF0 A B m (p : Int) (some (.int (-(k : Int))))) (by unfold levF0; simp -implicitDefEqProofs only [ev, ↓reduceIte, Nat.reduceAdd, reduceCtorEq, tA, tB, dA, dB]) h) ?_
    refine Exists.imp (fun g h => seqT (st1 := L ++ levF0 A B m (p : Int) (some (.int (-(k : Int))))) (by unfold levF0; simp -implicitDefEqProofs only [ev, ↓reduceIte, Nat.reduceAdd, reduceCtorEq, d1, d2, c_len lA, c_len lB, sx_len]) h) ?_
    refine Exists.imp (fun g h => seqT (st1 := L ++ levF0 A B m (p : Int) (some (.int (-(k : Int))))) (by unfold levF0; simp -implicitDefEqProofs only [ev, ↓reduceIte, Nat.reduceAdd, reduceCtorEq, d3, c_len lA, c_len lB, sx_len]) h) ?_
    by_cases hc : ((B.length : Int) - (A.length : Int)) * 2 > m
    · rw [if_pos hc]
      have dc : decide (((B.length : Int) - (A.length : Int)) * 2 > m) = true := by simpa using hc
      refine ⟨_, seqR (v := .int (m + 1)) (st1 := L ++ levF0 A B m (p : Int) (some (.int (-(k : Int))))) ?_⟩
      unfold levF0
      simp -implicitDefEqProofs only [ev, ↓reduceIte, Nat.reduceAdd, reduceCtorEq, dc, c_len lA, c_len lB, sx_len, hsm2]
    · rw [if_neg hc]
      have dc : decide (((B.length : Int) - (A.length : Int)) * 2 > m) = false := by simpa using hc
      have hr := rng_two ⟨A.length, by omega⟩
      simp only at hr
      refine Exists.imp (fun g h => seqT (st1 := L ++ levF0 A B m (p : Int) (some (.int (-(k : Int))))) (by unfold levF0; simp -implicitDefEqProofs only [ev, ↓reduceIte, Nat.reduceAdd, reduceCtorEq, dc, c_len lA, c_len lB, sx_len, hsm2]) h) ?_
      refine Exists.imp (fun g h => seqT (st1 := L ++ [.ns nmLev [some (.str (sx A)), some (.str (sx B)), some (.int m), some (.int (p : Int)), some (.int (-(k : Int))), some (.ref (L.length + 1)), none, none, none, none, none, none, none, none], .list ((rangeInts 2 2 A.length 0).map AV.int)])
        (by unfold levF0; simp -implicitDefEqProofs only [ev, ↓reduceIte, Nat.reduceAdd, reduceCtorEq, bListRange, c_len lA, sx_len, hsm, hr.1, hr.2.1, hr.2.2]) h) ?_
      refine Exists.imp (fun g h => seqT (st1 := L ++ levS A B m (p : Int) (-(k : Int)) (L.length + 1) 0 none none none none none none none (rangeInts 2 2 A.length 0)) (by unfold levS; simp -implicitDefEqProofs only [ev, ↓reduceIte, Nat.reduceAdd, reduceCtorEq]) h) ?_
      have hrb := rng_nat (n := B.length) (by omega)
      have hit : (iCall (bVal (.typ "range")) (lCons (bCall (cOr blts q) (bVal (.blt "len")) (lCons (bLoc nmLev 1) lNil) kNil) lNil)) ⟨L.length, [], code⟩ (L ++ levS A B m (p : Int) (-(k : Int)) (L.length + 1) 0 none none none none none none none (rangeInts 2 2 A.length 0)) =
          some (.rng 0 1 B.length, L ++ levS A B m (p : Int) (-(k : Int)) (L.length + 1) 0 none none none none none none none (rangeInts 2 2 A.length 0)) := by
        unfold levS
        simp -implicitDefEqProofs only [ev, ↓reduceIte, Nat.reduceAdd, reduceCtorEq, iCall, c_len lB, sx_len, hrb.1, hrb.2]
      have hlp := levOut_loop (L := L) (code := code) (a := A) (b := B) (m := m) (pre := (p : Int)) (post := (-(k : Int))) hs (by omega) (by omega) B 0 (B.length + 1) (rangeInts 2 2 A.length 0) 0 none none none none none none none rfl (by rw [rangeInts_len]) (by omega)
      have hfor : ∀ r, forGo (.rng 0 1 B.length) (gLoc nmLev 7) (levOut aS (cOr blts q)) xPass ⟨L.length, [], code⟩ (B.length + 1) 0 (L ++ levS A B m (p : Int) (-(k : Int)) (L.length + 1) 0 none none none none none none none (rangeInts 2 2 A.length 0)) = r →
          xFor (iCall (bVal (.typ "range")) (lCons (bCall (cOr blts q) (bVal (.blt "len")) (lCons (bLoc nmLev 1) lNil) kNil) lNil)) (gLoc nmLev 7) (levOut aS (cOr blts q)) xPass ⟨L.length, [], code⟩ (L ++ levS A B m (p : Int) (-(k : Int)) (L.length + 1) 0 none none none none none none none (rangeInts 2 2 A.length 0)) = r := fun r h => by
        unfold xFor
        rw [hit, Option.bind_some]
        exact h
      rcases hlp with ⟨g, h⟩ | ⟨bi', bch', dist', mini', idx', sub', ins', row', h⟩
      · exact ⟨g, seqR (hfor _ h)⟩
      · refine Exists.imp (fun g h2 => seqT (hfor _ h) h2) ?_
        refine ⟨_, seqR (v := .int (ltab sc m A B 0 (rangeInts 2 2 A.length 0) 0)) (st1 := L ++ levS A B m (p : Int) (-(k : Int)) (L.length + 1) (ltab sc m A B 0 (rangeInts 2 2 A.length 0) 0) bi' bch' dist' mini' idx' sub' ins' row') ?_⟩
        unfold levS
        simp -implicitDefEqProofs only [ev, ↓reduceIte, Nat.reduceAdd, reduceCtorEq, Int.ofNat_zero, Int.cast_ofNat_Int]
end
structure Sys (prog : Program) (w : World) (mg mb : Str → Option Value) (X : Heap → List TabD → Prop) where
  K : Frag
  G : List (Str × AV)
  m : MethF
  ga : AV → Str → St → Option AV
  sa : AV → Str → AV → St → Option St
  codes : Str → Option (Addr × TabD)
  loops : Nat
  hK : ∀ h tb, X h tb → K.In h
  hR : ∀ d c, SoundC prog w G mg mb X d c → SoundRt prog w mg mb X d ⟨G, c, m, ga, sa, codes, loops⟩
noncomputable def cRel (R : AV → List AV → List (Str × AV) → St → AV × St → Prop) : CallF := fun f args kw st => open Classical in if h : ∃ r, R f args kw st r then some h.choose else none
theorem cRel_some {R : AV → List AV → List (Str × AV) → St → AV × St → Prop} {f : AV} {args : List AV} {kw : List (Str × AV)} {st : St} {r : AV × St} (h : cRel R f args kw st = some r) : R f args kw st r := by
  unfold cRel at h
  split at h
  · rename_i h1
    cases h
    exact h1.choose_spec
  · cases h
theorem cRel_of {R : AV → List AV → List (Str × AV) → St → AV × St → Prop} {f : AV} {args : List AV} {kw : List (Str × AV)} {st : St} {r : AV × St} (h : R f args kw st r) (hu : ∀ r', R f args kw st r' → r' = r) : cRel R f args kw st = some r := by
  unfold cRel
  have h1 : ∃ r, R f args kw st r := ⟨r, h⟩
  rw [dif_pos h1, hu _ h1.choose_spec]
section
variable {prog : Program} {w : World} {mg mb : Str → Option Value} {X : Heap → List TabD → Prop} {d : Nat} (S : Sys prog w mg mb X)
def Sys.R (c : CallF) : Rt := ⟨S.G, c, S.m, S.ga, S.sa, S.codes, S.loops⟩
abbrev Sys.CC (d : Nat) (c : CallF) : Prop := SoundCC prog w S.G mg mb X d c
abbrev Sys.C (d : Nat) (c : CallF) : Prop := SoundC prog w S.G mg mb X d c
theorem Sys.told {q c : CallF} (hq : S.C d q)
    (h : ∀ f args kw st r, c f args kw st = some r → WF st → ∃ fl st1, smallRun (S.R (cOr blts q)) 60 (fiOf S.K) f args kw st = some (fl, st1) ∧ Trim st st1 (retOf fl) r) : S.CC (d + 1) c :=
  sound_told (sound_small (fuel := 60) (infos := fiOf S.K) (R := S.R (cOr blts q)) (S.hR d _ (sound_cor sound_blts hq)) fun a fi e h tb hx => fiOf_ok (S.hK h tb hx) e) h
theorem Sys.none_sound : S.C d (fun _ _ _ _ => .none) := fun B f args kw st r hB h => (by cases h)
end
def sumSub (aS : Addr) : CallF := fun f args kw st => match f, args, kw with
  | .old a, [.str x, .str y], [] => if a = aS ∧ x.length ≤ 1000 ∧ y.length ≤ 1000 then some (.int (subF x y), st) else .none
  | _, _, _ => .none
def scF (x y : Nat) : Int := subF (sx [x]) (sx [y])
def sumLev (aL : Addr) : CallF := fun f args kw st => match f, args, kw with
  | .old a, [.str x, .str y, .int m], [] => if a = aL ∧ x.length ≤ y.length ∧ y.length ≤ 8 then some (.int (levP scF x.cps.toList y.cps.toList m), st) else .none
  | _, _, _ => .none
section
variable {prog : Program} {w : World} {mg mb : Str → Option Value} {X : Heap → List TabD → Prop} {d : Nat} (S : Sys prog w mg mb X)
theorem sub_told {aS : Addr} {r0 : MethF} (hm : S.m = mOr mStr r0) (hp : ∀ c (x y : AV) L, ∃ code, prep S.K (S.R c) 60 aS [x, y] [] L = some (L, [.ns nmSub [some x, some y]], [], code, subAct c S.m)) : S.CC (d + 1) (sumSub aS) := by
  refine S.told S.none_sound fun f args kw st r h hw => ?_
  unfold sumSub at h
  split at h
  · rename_i a x y
    split at h
    · rename_i hc
      cases h
      obtain ⟨rfl, hx, hy⟩ := hc
      obtain ⟨code, hp⟩ := hp (cOr blts fun _ _ _ _ => .none) (.str x) (.str y) st
      obtain ⟨g, hg⟩ := sub_run (q := fun _ _ _ _ => .none) (r := r0) (L := st) (code := code) hx hy
      refine ⟨.ret (.int (subF x y)), st ++ g, (run_prep hp).trans ?_, trim0 hw rfl⟩
      rw [hm]
      exact hg
    · cases h
  · cases h
theorem lev_told {aS aL : Addr} (hl : 8 < S.loops) (hs : S.CC d (sumSub aS)) (hp : ∀ c (x y z : AV) L, ∃ code, prep S.K (S.R c) 60 aL [x, y, z] [] L = some (L, [.ns nmLev [some x, some y, some z, none, none, none, none, none, none, none, none, none, none, none]], [], code, levAct aS S.loops c)) : S.CC (d + 1) (sumLev aL) := by
  refine S.told hs.c fun f args kw st r h hw => ?_
  unfold sumLev at h
  split at h
  · rename_i a x y m
    split at h
    · rename_i hc
      cases h
      obtain ⟨rfl, hx, hy⟩ := hc
      obtain ⟨code, hp⟩ := hp (cOr blts (sumSub aS)) (.str x) (.str y) (.int m) st
      have := lev_run (q := sumSub aS) (L := st) (code := code) (aS := aS) (sc := scF) (a := x.cps.toList) (b := y.cps.toList) (m := m) (loops := S.loops) (fun x y st => if_pos ⟨rfl, by simp [sx_len], by simp [sx_len]⟩) (by rw [← sx_len, ← sx_len]; exact hx) (by rw [← sx_len]; exact hy) hl
      obtain ⟨g, hg⟩ := this
      exact ⟨.ret (.int (levP scF x.cps.toList y.cps.toList m)), st ++ g, (run_prep hp).trans hg, trim0 hw rfl⟩
    · cases h
  · cases h
end
def nmI : List Str := ["x", "L", "R", "mid", "shift", "upper", "lower"]
def intIn (c : CallF) : Act AFlow := (xSeq (xIf (tCmp .Eq (bBin .Add (bLoc nmI 1) (bVal (.int 1))) (bLoc nmI 2)) (xSeq (xAsg (bLoc nmI 0) [(gItem (bCell 2) (bLoc nmI 1))])
  (xSeq xRet0
  xPass)) xPass)
  (xSeq (xAsg (bBin .RShift (bBin .Add (bLoc nmI 1) (bLoc nmI 2)) (bVal (.int 1))) [(gLoc nmI 3)])
  (xSeq (xAsg (bBin .Mult (bBin .Sub (bLoc nmI 3) (bLoc nmI 1)) (bCell 0)) [(gLoc nmI 4)])
  (xSeq (xAsg (bBin .RShift (bLoc nmI 0) (bLoc nmI 4)) [(gLoc nmI 5)])
  (xSeq (xAsg (bBin .BitXor (bLoc nmI 0) (bBin .LShift (bLoc nmI 5) (bLoc nmI 4))) [(gLoc nmI 6)])
  (xSeq (xExpr (bCall c (bCell 1) (lCons (bLoc nmI 6) (lCons (bLoc nmI 1) (lCons (bLoc nmI 3) lNil))) kNil))
  (xSeq (xExpr (bCall c (bCell 1) (lCons (bLoc nmI 5) (lCons (bLoc nmI 3) (lCons (bLoc nmI 2) lNil))) kNil))
  xPass)))))))
def nts (l : List Nat) : List AV := l.map fun (x : Nat) => AV.int (x : Int)
def wr (ds : List AV) (lo hi : Nat) (l : List Nat) : List AV := ds.take lo ++ nts l ++ ds.drop hi
theorem wr_len {ds : List AV} {lo hi : Nat} {l : List Nat} (h1 : lo ≤ hi) (h2 : hi ≤ ds.length) (h3 : l.length = hi - lo) : (wr ds lo hi l).length = ds.length := by
  unfold wr nts
  simp [h3]; omega
theorem wr_wr {ds : List AV} {lo mid hi : Nat} {l1 l2 : List Nat} (h1 : lo ≤ mid) (h2 : mid ≤ hi) (h4 : hi ≤ ds.length) (h3 : l1.length = mid - lo) : wr (wr ds lo mid l1) mid hi l2 = wr ds lo hi (l1 ++ l2) := by
  have hl : (List.take lo ds ++ nts l1).length = mid := by unfold nts; simp [h3]; omega
  have e1 : (wr ds lo mid l1).take mid = ds.take lo ++ nts l1 := by
    unfold wr
    rw [List.take_append_of_le_length (by omega), List.take_of_length_le (by omega)]
  have e2 : (wr ds lo mid l1).drop hi = ds.drop hi := by
    unfold wr
    rw [List.drop_append, List.drop_eq_nil_of_le (by omega), hl, List.drop_drop, List.nil_append]
    congr 1; omega
  show List.take mid _ ++ nts l2 ++ List.drop hi _ = _
  rw [e1, e2]
  unfold wr nts
  simp
theorem wr_one {ds : List AV} {lo x : Nat} (h : lo < ds.length) : ds.set lo (.int (x : Int)) = wr ds lo (lo + 1) [x] := by
  unfold wr nts
  rw [List.set_eq_take_append_cons_drop, if_pos h]
  simp
theorem wr_flat {ds : List AV} {lo hi : Nat} {l : List Nat} (h : ds.all AV.flat = true) : (wr ds lo hi l).all AV.flat = true := by
  unfold wr nts
  rw [List.all_append, List.all_append, Bool.and_eq_true, Bool.and_eq_true]
  rw [List.all_eq_true] at h
  refine ⟨⟨?_, ?_⟩, ?_⟩
  · rw [List.all_eq_true]; exact fun x hx => h x (List.mem_of_mem_take hx)
  · rw [List.all_eq_true]
    intro x hx
    obtain ⟨y, _, rfl⟩ := List.mem_map.mp hx
    rfl
  · rw [List.all_eq_true]; exact fun x hx => h x (List.mem_of_mem_drop hx)
structure IntAt (ps : Arguments) (body : List Stmt) (scope : Scope) (P : Addr) (st : St) (kf kn ki ka kd n : Nat) (ds : List AV) : Prop where
  f : st[kf]? = some (.fn ps body scope "_int2digits.<locals>.inner" [("n", kn), ("inner", ki), ("a_digits", ka)] P)
  n : st[kn]? = some (.cell (some (.int (n : Int))))
  i : st[ki]? = some (.cell (some (.ref kf)))
  a : st[ka]? = some (.cell (some (.ref kd)))
  d : st[kd]? = some (.list ds)
  flat : ds.all AV.flat = true
def RI (ps : Arguments) (body : List Stmt) (scope : Scope) (P : Addr) (N : Nat) : AV → List AV → List (Str × AV) → St → AV × St → Prop := fun f args kw st r =>
  ∃ (kf kn ki ka kd n lo hi x : Nat) (ds : List AV), f = .ref kf ∧ args = [.int (x : Int), .int (lo : Int), .int (hi : Int)] ∧ kw = [] ∧ IntAt ps body scope P st kf kn ki ka kd n ds ∧
    (lo < hi ∧ hi ≤ ds.length ∧ hi - lo ≤ N ∧ x < 2 ^ (n * (hi - lo)) ∧ n ≤ 64 ∧ ds.length ≤ 1000) ∧ r = (.none, st.set kd (.list (wr ds lo hi (digN (2 ^ n) (hi - lo) x))))
theorem RI_uniq {ps : Arguments} {body : List Stmt} {scope : Scope} {P : Addr} {N : Nat} {f : AV} {args : List AV} {kw : List (Str × AV)} {st : St} {r r' : AV × St} (h : RI ps body scope P N f args kw st r) (h' : RI ps body scope P N f args kw st r') : r' = r := by
  obtain ⟨kf, kn, ki, ka, kd, n, lo, hi, x, ds, a1, a2, a3, a4, a5, rfl⟩ := h
  obtain ⟨kf', kn', ki', ka', kd', n', lo', hi', x', ds', b1, b2, b3, b4, b5, rfl⟩ := h'
  subst a1
  cases b1
  have e1 := a4.f
  rw [b4.f] at e1
  simp only [Option.some.injEq, AO.fn.injEq, List.cons.injEq, Prod.mk.injEq, true_and, and_true] at e1
  obtain ⟨rfl, rfl, rfl⟩ := e1
  have e2 := a4.n
  rw [b4.n] at e2
  simp only [Option.some.injEq, AO.cell.injEq, AV.int.injEq] at e2
  have e3 := a4.a
  rw [b4.a] at e3
  simp only [Option.some.injEq, AO.cell.injEq, AV.ref.injEq] at e3
  subst e3
  have e4 := a4.d
  rw [b4.d] at e4
  simp only [Option.some.injEq, AO.list.injEq] at e4
  subst e4
  rw [a2] at b2
  simp only [List.cons.injEq, AV.int.injEq, and_true] at b2
  obtain ⟨c1, c2, c3⟩ := b2
  have : x = x' := by omega
  have : lo = lo' := by omega
  have : hi = hi' := by omega
  have : n = n' := by omega
  subst_vars
  rfl
theorem IntAt.app {ps : Arguments} {body : List Stmt} {scope : Scope} {P : Addr} {st : St} {kf kn ki ka kd n : Nat} {ds : List AV} (h : IntAt ps body scope P st kf kn ki ka kd n ds) (R : St) : IntAt ps body scope P (st ++ R) kf kn ki ka kd n ds :=
  have up : ∀ {k : Nat} {ao : AO}, st[k]? = some ao → (st ++ R)[k]? = some ao := fun e => by rw [List.getElem?_append_left (List.getElem?_eq_some_iff.mp e).1]; exact e
  ⟨up h.f, up h.n, up h.i, up h.a, up h.d, h.flat⟩
theorem IntAt.put {ps : Arguments} {body : List Stmt} {scope : Scope} {P : Addr} {st : St} {kf kn ki ka kd n : Nat} {ds ds' : List AV} (h : IntAt ps body scope P st kf kn ki ka kd n ds) (hf : ds'.all AV.flat = true) : IntAt ps body scope P (st.set kd (.list ds')) kf kn ki ka kd n ds' :=
  have ne : ∀ {k : Nat} {ao : AO}, st[k]? = some ao → (∀ l, ao ≠ .list l) → (st.set kd (.list ds'))[k]? = some ao := fun {k ao} e hn => by
    rw [List.getElem?_set_ne]
    · exact e
    · rintro rfl
      rw [h.d] at e
      cases e
      exact hn _ rfl
  ⟨ne h.f (fun _ e => by cases e), ne h.n (fun _ e => by cases e), ne h.i (fun _ e => by cases e), ne h.a (fun _ e => by cases e), List.getElem?_set_self (List.getElem?_eq_some_iff.mp h.d).1, hf⟩
theorem pow_two_pos (k : Nat) : 0 < 2 ^ k := Nat.pow_pos (by omega)
theorem intIn_run {ps : Arguments} {body : List Stmt} {scope : Scope} {P : Addr} {st : St} {kf kn ki ka kd n lo hi x M : Nat} {ds : List AV} {code : Value} (h : IntAt ps body scope P st kf kn ki ka kd n ds) (h1 : lo < hi) (h2 : hi ≤ ds.length) (h3 : hi - lo ≤ 2 * M ∨ hi - lo ≤ 1) (h4 : x < 2 ^ (n * (hi - lo))) (h5 : n ≤ 64) (h6 : ds.length ≤ 1000) :
    ∃ fl fr, retOf fl = .none ∧ intIn (cOr blts (cRel (RI ps body scope P M))) ⟨st.length, [kn, ki, ka], code⟩ (st ++ [.ns nmI [some (.int (x : Int)), some (.int (lo : Int)), some (.int (hi : Int)), none, none, none, none]]) = some (fl, st.set kd (.list (wr ds lo hi (digN (2 ^ n) (hi - lo) x))) ++ fr) := by
  have hn := fun R => (h.app R).n
  have hi' := fun R => (h.app R).i
  have ha := fun R => (h.app R).a
  have hd := fun R => (h.app R).d
  have hkd := (List.getElem?_eq_some_iff.mp h.d).1
  have hset : ∀ R v, (st ++ R).set kd v = st.set kd v ++ R := fun R v => List.set_append_left _ _ hkd
  unfold intIn
  by_cases hc : hi = lo + 1
  · subst hc
    have c1 : decide ((lo : Int) + 1 = ((lo + 1 : Nat) : Int)) = true := by simp
    have c2 : (0 ≤ (lo : Int) ∧ (lo : Int) < 2 ^ 60 ∧ (lo : Int) < (ds.length : Int)) = True := eq_true ⟨by omega, by omega, by omega⟩
    have e0 : digN (2 ^ n) (lo + 1 - lo) x = [x] := by
      rw [Nat.add_sub_cancel_left] at h4 ⊢
      unfold digN
      rw [Nat.mul_one] at h4
      rw [Nat.mod_eq_of_lt h4]
      rfl
    rw [e0, ← wr_one (by omega)]
    refine ⟨.ret .none, [.ns nmI [some (.int (x : Int)), some (.int (lo : Int)), some (.int ((lo + 1 : Nat) : Int)), none, none, none, none]], rfl, seqR (st1 := st.set kd (.list (ds.set lo (.int (x : Int)))) ++ [.ns nmI [some (.int (x : Int)), some (.int (lo : Int)), some (.int ((lo + 1 : Nat) : Int)), none, none, none, none]]) ?_⟩
    simp -implicitDefEqProofs only [ev, ↓reduceIte, Nat.reduceAdd, reduceCtorEq, c1, ha, asetitem, hd, c2, hset, Int.toNat_natCast]
  · obtain ⟨mid, hmid⟩ : ∃ mid, mid = (lo + hi) / 2 := ⟨_, rfl⟩
    obtain ⟨s, hs⟩ : ∃ s, s = (mid - lo) * n := ⟨_, rfl⟩
    have m1 : lo < mid := by omega
    have m2 : mid < hi := by omega
    have hM : hi - lo ≤ 2 * M := by omega
    have hs64 : s ≤ 64 * 1000 := by
      rw [hs, Nat.mul_comm]
      exact Nat.mul_le_mul h5 (by omega)
    have hs' : s = n * (mid - lo) := by rw [hs, Nat.mul_comm]
    have hB : (2 ^ n) ^ (mid - lo) = 2 ^ s := by rw [hs', Nat.pow_mul]
    have hsum : n * (hi - lo) = s + n * (hi - mid) := by
      rw [hs', ← Nat.mul_add]; congr 1; omega
    have hup : x / 2 ^ s < 2 ^ (n * (hi - mid)) := by
      rw [Nat.div_lt_iff_lt_mul (pow_two_pos s), ← Nat.pow_add, Nat.add_comm, ← hsum]; exact h4
    have hlow : x % 2 ^ s < 2 ^ (n * (mid - lo)) := by rw [← hs']; exact Nat.mod_lt _ (pow_two_pos s)
    have hdig : digN (2 ^ n) (hi - lo) x = digN (2 ^ n) (mid - lo) (x % 2 ^ s) ++ digN (2 ^ n) (hi - mid) (x / 2 ^ s) := by
      rw [show hi - lo = (mid - lo) + (hi - mid) by omega, digN_add _ (pow_two_pos n), hB, ← hB, digN_mod _ (pow_two_pos n)]
    have c1 : decide ((lo : Int) + 1 = (hi : Int)) = false := by simp; omega
    have e0 : (0 ≤ (1 : Int)) = True := eq_true (by decide)
    have e1 : ((lo : Int) + (hi : Int)).fdiv (2 ^ (1 : Int).toNat) = (mid : Int) := by
      rw [show ((lo : Int) + (hi : Int)) = ((lo + hi : Nat) : Int) by simp, show (1 : Int).toNat = 1 from rfl, fdiv_pow, hmid]
    have e2 : ((mid : Int) - (lo : Int)) * (n : Int) = (s : Int) := by
      rw [hs, Int.natCast_mul, Int.natCast_sub (by omega)]
    have e3 : ((x : Int)).fdiv (2 ^ s) = ((x / 2 ^ s : Nat) : Int) := fdiv_pow x s
    have hb : Builtin.Int.intBits ((x / 2 ^ s : Nat) : Int) ≤ n * (hi - mid) := intBits_le hup
    have hb2 : n * (hi - mid) ≤ 64 * 1000 := Nat.mul_le_mul h5 (by omega)
    have e4 : (0 ≤ (s : Int) ∧ (Builtin.Int.intBits ((x / 2 ^ s : Nat) : Int) : Int) + (s : Int) ≤ 2 ^ 27) = True := eq_true ⟨by omega, by omega⟩
    have e5 : Builtin.bitXor (x : Int) (((x / 2 ^ s : Nat) : Int) * 2 ^ s) = ((x % 2 ^ s : Nat) : Int) := by
      rw [show (((x / 2 ^ s : Nat) : Int) * 2 ^ s) = ((x / 2 ^ s * 2 ^ s : Nat) : Int) by simp, bitXor_nat, xor_high]
    have e6 : (small ((mid : Int) - (lo : Int)) || small (n : Int)) = true := by
      have : small (n : Int) = true := decide_eq_true ⟨by omega, by omega⟩
      rw [this, Bool.or_true]
    have hr1 : ∀ R, cRel (RI ps body scope P M) (.ref kf) [.int ((x % 2 ^ s : Nat) : Int), .int (lo : Int), .int (mid : Int)] [] (st ++ R) = some (.none, st.set kd (.list (wr ds lo mid (digN (2 ^ n) (mid - lo) (x % 2 ^ s)))) ++ R) := fun R => by
      have hR : RI ps body scope P M (.ref kf) [.int ((x % 2 ^ s : Nat) : Int), .int (lo : Int), .int (mid : Int)] [] (st ++ R) (.none, st.set kd (.list (wr ds lo mid (digN (2 ^ n) (mid - lo) (x % 2 ^ s)))) ++ R) :=
        ⟨kf, kn, ki, ka, kd, n, lo, mid, _, ds, rfl, rfl, rfl, h.app R, ⟨m1, by omega, by omega, hlow, h5, h6⟩, by rw [hset]⟩
      exact cRel_of hR fun r' h' => RI_uniq hR h'
    obtain ⟨ds1, hds1⟩ : ∃ ds1, ds1 = wr ds lo mid (digN (2 ^ n) (mid - lo) (x % 2 ^ s)) := ⟨_, rfl⟩
    rw [← hds1] at hr1
    have fl1 : ds1.all AV.flat = true := hds1 ▸ wr_flat h.flat
    have hP := h.put fl1
    have hl1 : ds1.length = ds.length := by rw [hds1]; exact wr_len (by omega) (by omega) (digN_len _ _ _)
    have hr2 : ∀ R, cRel (RI ps body scope P M) (.ref kf) [.int ((x / 2 ^ s : Nat) : Int), .int (mid : Int), .int (hi : Int)] [] (st.set kd (.list ds1) ++ R) = some (.none, (st.set kd (.list ds1)).set kd (.list (wr ds1 mid hi (digN (2 ^ n) (hi - mid) (x / 2 ^ s)))) ++ R) := fun R => by
      have hR : RI ps body scope P M (.ref kf) [.int ((x / 2 ^ s : Nat) : Int), .int (mid : Int), .int (hi : Int)] [] (st.set kd (.list ds1) ++ R) (.none, (st.set kd (.list ds1)).set kd (.list (wr ds1 mid hi (digN (2 ^ n) (hi - mid) (x / 2 ^ s)))) ++ R) :=
        ⟨kf, kn, ki, ka, kd, n, mid, hi, _, ds1, rfl, rfl, rfl, hP.app R, ⟨m2, by omega, by omega, hup, h5, by omega⟩, by rw [List.set_append_left _ _ (by simpa using hkd)]⟩
      exact cRel_of hR fun r' h' => RI_uniq hR h'
    have hn1 := fun R => (hP.app R).n
    have hi1 := fun R => (hP.app R).i
    have hlen : (st.set kd (.list ds1)).length = st.length := by simp
    have gA : ∀ R, (st.set kd (.list ds1) ++ R)[st.length]? = R[0]? := fun R => by rw [← hlen]; exact getA
    refine ⟨.next, [.ns nmI [some (.int (x : Int)), some (.int (lo : Int)), some (.int (hi : Int)), some (.int (mid : Int)), some (.int (s : Int)), some (.int ((x / 2 ^ s : Nat) : Int)), some (.int ((x % 2 ^ s : Nat) : Int))]], rfl, ?_⟩
    refine seqT (by simp -implicitDefEqProofs only [ev, ↓reduceIte, Nat.reduceAdd, reduceCtorEq, c1]; try rfl) ?_
    refine seqT (by simp -implicitDefEqProofs only [ev, ↓reduceIte, Nat.reduceAdd, reduceCtorEq, e0, e1]; try rfl) ?_
    refine seqT (by simp -implicitDefEqProofs only [ev, ↓reduceIte, Nat.reduceAdd, reduceCtorEq, hn, e6, e2]; try rfl) ?_
    refine seqT (by simp -implicitDefEqProofs only [ev, ↓reduceIte, Nat.reduceAdd, reduceCtorEq, Int.natCast_nonneg, Int.toNat_natCast, e3]; try rfl) ?_
    refine seqT (by simp -implicitDefEqProofs only [ev, ↓reduceIte, Nat.reduceAdd, reduceCtorEq, e4, Int.toNat_natCast, e5]; try rfl) ?_
    refine seqT (st1 := st.set kd (.list ds1) ++ [.ns nmI [some (.int (x : Int)), some (.int (lo : Int)), some (.int (hi : Int)), some (.int (mid : Int)), some (.int (s : Int)), some (.int ((x / 2 ^ s : Nat) : Int)), some (.int ((x % 2 ^ s : Nat) : Int))]]) (by simp -implicitDefEqProofs only [ev, ↓reduceIte, Nat.reduceAdd, reduceCtorEq, hi', c_ref, hr1]) ?_
    refine seqT (st1 := st.set kd (.list (wr ds lo hi (digN (2 ^ n) (hi - lo) x))) ++ [.ns nmI [some (.int (x : Int)), some (.int (lo : Int)), some (.int (hi : Int)), some (.int (mid : Int)), some (.int (s : Int)), some (.int ((x / 2 ^ s : Nat) : Int)), some (.int ((x % 2 ^ s : Nat) : Int))]]) ?_ rfl
    rw [hdig, ← wr_wr (mid := mid) (by omega) (by omega) h2 (digN_len _ _ _), ← hds1]
    simp -implicitDefEqProofs only [ev, ↓reduceIte, Nat.reduceAdd, reduceCtorEq, hi1, gA, c_ref, hr2, List.set_set]
section
variable {prog : Program} {w : World} {mg mb : Str → Option Value} {X : Heap → List TabD → Prop} (S : Sys prog w mg mb X) {ps : Arguments} {body : List Stmt} {scope : Scope} {P : Addr}
theorem int_inner_told (hp : ∀ c (x y z : AV), prepC (S.R c) 60 ps body scope "_int2digits.<locals>.inner" ["n", "inner", "a_digits"] [x, y, z] = some ([.ns nmI [some x, some y, some z, none, none, none, none]], intIn c)) :
    ∀ (j d : Nat), S.CC (d + j + 1) (cRel (RI ps body scope P (2 ^ j))) := by
  have step : ∀ M N d, (N ≤ 2 * M ∨ N ≤ 1) → S.C d (cRel (RI ps body scope P M)) → S.CC (d + 1) (cRel (RI ps body scope P N)) := fun M N d hN hq => by
    refine S.told hq fun f args kw st r h hw => ?_
    obtain ⟨kf, kn, ki, ka, kd, n, lo, hi, x, ds, rfl, rfl, rfl, h1, ⟨h2, h3, h4, h5, h6, h7⟩, rfl⟩ := cRel_some h
    obtain ⟨fl, fr, g1, g2⟩ := intIn_run (M := M) (code := .none) h1 h2 h3 (by omega) h5 h6 h7
    refine ⟨fl, _, (run_prepC h1.f (hp _ _ _ _)).trans g2, ?_⟩
    rw [g1]
    exact trimSet hw rfl (wr_flat h1.flat)
  intro j
  induction j with
  | zero =>
    intro d
    refine step 0 1 d (.inr (Nat.le_refl _)) fun B f args kw st r hB h => ?_
    obtain ⟨kf, kn, ki, ka, kd, n, lo, hi, x, ds, _, _, _, _, ⟨h2, h3, h4, _⟩, _⟩ := cRel_some h
    omega
  | succ j ih =>
    intro d
    exact step (2 ^ j) (2 ^ (j + 1)) (d + j + 1) (.inl (by rw [Nat.pow_succ]; omega)) (ih d).c
def nmA : List Str := ["a"]
def intAct (ps : Arguments) (body : List Stmt) (scope : Scope) (cA P : Addr) (c : CallF) (m : MethF) : Act AFlow := (xSeq (xAsg (bBin .Mult (bList (lCons (bVal (.int 0)) lNil)) (bBin .FloorDiv (bBin .Sub (bBin .Add (bMeth c m (bLoc nmA 0) ("bit_length" : Str) lNil kNil) (bCell 0)) (bVal (.int 1))) (bCell 0))) [(gCell 1)])
  (xSeq (xDef cA P ps body scope ("_int2digits.<locals>.inner" : Str) [1, 2, 0] (gCell 2))
  (xSeq (xIf (tVal (bLoc nmA 0)) (xSeq (xExpr (bCall c (bCell 2) (lCons (bLoc nmA 0) (lCons (bVal (.int 0)) (lCons (bCall c (bVal (.blt "len")) (lCons (bCell 1) lNil) kNil) lNil))) kNil))
  xPass) xPass)
  (xSeq (xRet (bCell 1))
  xPass))))
theorem c_bits {q : CallF} {st : St} {i : Int} : cOr blts q (.blt "int.bit_length") [.int i] [] st = some (.int (Builtin.Int.intBits i), st) := rfl
theorem m_bits {r : MethF} {st : St} {i : Int} : mOr mStr r (.int i) ("bit_length" : Str) st = some (.blt "int.bit_length", [.int i]) := rfl
theorem c_lenL {q : CallF} {st : St} {k : Nat} {xs : List AV} (h : st[k]? = some (.list xs)) (h2 : xs.length ≤ 1000000) : cOr blts q (.blt "len") [.ref k] [] st = some (.int (xs.length : Int), st) := by
  have h3 : itemsAt st k = some xs := by unfold itemsAt; rw [h]
  have : cLen (.blt "len") [.ref k] [] st = some (.int (xs.length : Int), st) := by
    unfold cLen
    simp only [h3, Option.bind_some]
    rw [if_pos h2]
  exact cor_l (cor_l this)
theorem pick3 {a b c : Nat} : pick [a, b, c] [1, 2, 0] = some [b, c, a] := rfl
def dlen (x n : Nat) : Nat := (Builtin.Int.intBits (x : Int) + n - 1) / n
theorem int_run {L : St} {code : Value} {cA : Addr} {r0 : MethF} {x n N : Nat} (hcode : isCode code cA = true) (hfree : freeOf scope = (["a_digits", "inner", "n"] : List Str)) (h1 : 0 < n) (h2 : n ≤ 64) (h3 : dlen x n ≤ N) (h4 : N ≤ 1000) :
    ∃ g, g[5]? = some (.list (nts (digN (2 ^ n) (dlen x n) x))) ∧ intAct ps body scope cA P (cOr blts (cRel (RI ps body scope P N))) (mOr mStr r0) ⟨L.length, [L.length + 1, L.length + 2, L.length + 3], code⟩
      (L ++ [.ns nmA [some (.int (x : Int))], .cell (some (.int (n : Int))), .cell none, .cell none]) = some (.ret (.ref (L.length + 5)), L ++ g) := by
  have f1 : ((n : Int) ≠ 0 ∧ (n : Int).natAbs < 1073741824) = True := eq_true ⟨by omega, by omega⟩
  obtain ⟨M, hM⟩ : ∃ M, M = dlen x n := ⟨_, rfl⟩
  have f2 : ((Builtin.Int.intBits (x : Int) : Int) + (n : Int) - 1).fdiv (n : Int) = (M : Int) := by
    rw [show ((Builtin.Int.intBits (x : Int) : Int) + (n : Int) - 1) = ((Builtin.Int.intBits (x : Int) + n - 1 : Nat) : Int) by omega, fdiv_nat, hM]
    rfl
  have f3 : ((M : Int) < 2 ^ 62 ∧ -(2 ^ 62) < (M : Int) ∧ (1 : Nat) * M ≤ 1000) = True := eq_true ⟨by omega, by omega, by omega⟩
  have f4 : (1 ≤ 1000) = True := eq_true (by decide)
  rw [← hM]
  unfold intAct
  have hrep : (List.replicate M [AV.int 0]).flatten.length = M := by simp
  have hdl : (digN (2 ^ n) M x).length = M := digN_len _ _ _
  have hflat : (List.replicate M [AV.int 0]).flatten.all AV.flat = true := by
    rw [List.all_eq_true]
    intro v hv
    simp at hv
    rw [hv.2]; rfl
  have hq : (0 : Nat) < 1000 := by decide
  have hst : ∀ v : AV, IntAt ps body scope P (L ++ [.ns nmA [some (.int (x : Int))], .cell (some (.int (n : Int))), .cell (some (.ref (L.length + 5))), .cell (some (.ref (L.length + 6))), .list [.int 0], .list (List.replicate M [AV.int 0]).flatten, .fn ps body scope "_int2digits.<locals>.inner" [("n", L.length + 1), ("inner", L.length + 3), ("a_digits", L.length + 2)] P]) (L.length + 6) (L.length + 1) (L.length + 3) (L.length + 2) (L.length + 5) n (List.replicate M [AV.int 0]).flatten :=
    fun _ => ⟨by rw [getK]; rfl, by rw [getK]; rfl, by rw [getK]; rfl, by rw [getK]; rfl, by rw [getK]; rfl, hflat⟩
  by_cases hx : x = 0
  · have hM0 : M = 0 := by
      rw [hM, hx]
      unfold dlen Builtin.Int.intBits
      simp
      omega
    have tx : ∀ st, atru (.int (x : Int)) st = some false := fun st => by unfold atru; simp [hx]
    refine ⟨[.ns nmA [some (.int (x : Int))], .cell (some (.int (n : Int))), .cell (some (.ref (L.length + 5))), .cell (some (.ref (L.length + 6))), .list [.int 0], .list (List.replicate M [AV.int 0]).flatten, .fn ps body scope "_int2digits.<locals>.inner" [("n", L.length + 1), ("inner", L.length + 3), ("a_digits", L.length + 2)] P], by subst hM0; rfl, ?_⟩
    refine seqT (by simp -implicitDefEqProofs only [ev, ↓reduceIte, Nat.reduceAdd, reduceCtorEq, m_bits, c_bits, f1, f2, f3, f4, Int.toNat_natCast]; try rfl) ?_
    refine seqT (st1 := L ++ [.ns nmA [some (.int (x : Int))], .cell (some (.int (n : Int))), .cell (some (.ref (L.length + 5))), .cell (some (.ref (L.length + 6))), .list [.int 0], .list (List.replicate M [AV.int 0]).flatten, .fn ps body scope "_int2digits.<locals>.inner" [("n", L.length + 1), ("inner", L.length + 3), ("a_digits", L.length + 2)] P]) ?_ ?_
    · simp -implicitDefEqProofs only [ev, ↓reduceIte, Nat.reduceAdd, reduceCtorEq, xDef, hcode, pick3, hfree, List.zip_cons_cons, List.zip_nil_left, List.reverse_cons, List.reverse_nil]
    refine seqT (by simp -implicitDefEqProofs only [ev, ↓reduceIte, Nat.reduceAdd, reduceCtorEq, tx]; try rfl) ?_
    refine seqR ?_
    simp -implicitDefEqProofs only [ev, ↓reduceIte, Nat.reduceAdd, reduceCtorEq]
  · have hb1 : Builtin.Int.intBits (x : Int) = x.log2 + 1 := by
      unfold Builtin.Int.intBits
      have : ((x : Int) == 0) = false := by simpa using hx
      rw [this]
      simp
    have hM1 : n * M ≥ x.log2 + 1 := by
      rw [hM]
      unfold dlen
      rw [hb1]
      have := Nat.div_add_mod (x.log2 + 1 + n - 1) n
      have := Nat.mod_lt (x.log2 + 1 + n - 1) h1
      omega
    have hM0 : 0 < M := by
      rcases Nat.eq_zero_or_pos M with e | e
      · rw [e] at hM1; simp at hM1
      · exact e
    have hlt : x < 2 ^ (n * (M - 0)) := by
      have : x < 2 ^ (x.log2 + 1) := Nat.lt_log2_self
      exact Nat.lt_of_lt_of_le this (Nat.pow_le_pow_right (by omega) (by simpa using hM1))
    have tx : ∀ st, atru (.int (x : Int)) st = some true := fun st => by unfold atru; simp [hx]
    have hwr : wr (List.replicate M [AV.int 0]).flatten 0 M (digN (2 ^ n) (M - 0) x) = nts (digN (2 ^ n) M x) := by
      unfold wr
      rw [List.drop_eq_nil_of_le (by rw [hrep]; exact Nat.le_refl _)]
      simp
    have hr : cRel (RI ps body scope P N) (.ref (L.length + 6)) [.int (x : Int), .int 0, .int (M : Int)] [] (L ++ [.ns nmA [some (.int (x : Int))], .cell (some (.int (n : Int))), .cell (some (.ref (L.length + 5))), .cell (some (.ref (L.length + 6))), .list [.int 0], .list (List.replicate M [AV.int 0]).flatten, .fn ps body scope "_int2digits.<locals>.inner" [("n", L.length + 1), ("inner", L.length + 3), ("a_digits", L.length + 2)] P]) = some (.none, L ++ [.ns nmA [some (.int (x : Int))], .cell (some (.int (n : Int))), .cell (some (.ref (L.length + 5))), .cell (some (.ref (L.length + 6))), .list [.int 0], .list (nts (digN (2 ^ n) M x)), .fn ps body scope "_int2digits.<locals>.inner" [("n", L.length + 1), ("inner", L.length + 3), ("a_digits", L.length + 2)] P]) := by
      have hR : RI ps body scope P N (.ref (L.length + 6)) [.int (x : Int), .int 0, .int (M : Int)] [] (L ++ [.ns nmA [some (.int (x : Int))], .cell (some (.int (n : Int))), .cell (some (.ref (L.length + 5))), .cell (some (.ref (L.length + 6))), .list [.int 0], .list (List.replicate M [AV.int 0]).flatten, .fn ps body scope "_int2digits.<locals>.inner" [("n", L.length + 1), ("inner", L.length + 3), ("a_digits", L.length + 2)] P]) (.none, L ++ [.ns nmA [some (.int (x : Int))], .cell (some (.int (n : Int))), .cell (some (.ref (L.length + 5))), .cell (some (.ref (L.length + 6))), .list [.int 0], .list (nts (digN (2 ^ n) M x)), .fn ps body scope "_int2digits.<locals>.inner" [("n", L.length + 1), ("inner", L.length + 3), ("a_digits", L.length + 2)] P]) :=
        ⟨_, _, _, _, _, n, 0, M, x, _, rfl, rfl, rfl, hst .none, ⟨hM0, by rw [hrep]; exact Nat.le_refl _, by omega, hlt, h2, by rw [hrep]; omega⟩, by rw [hwr, setK]; rfl⟩
      exact cRel_of hR fun r' h' => RI_uniq hR h'
    have hlen : ∀ (xs : List AV) R, (L ++ .ns nmA [some (.int (x : Int))] :: .cell (some (.int (n : Int))) :: .cell (some (.ref (L.length + 5))) :: .cell (some (.ref (L.length + 6))) :: .list [.int 0] :: .list xs :: R)[L.length + 5]? = some (.list xs) := fun xs R => by rw [getK]; rfl
    refine ⟨[.ns nmA [some (.int (x : Int))], .cell (some (.int (n : Int))), .cell (some (.ref (L.length + 5))), .cell (some (.ref (L.length + 6))), .list [.int 0], .list (nts (digN (2 ^ n) M x)), .fn ps body scope "_int2digits.<locals>.inner" [("n", L.length + 1), ("inner", L.length + 3), ("a_digits", L.length + 2)] P], rfl, ?_⟩
    refine seqT (by simp -implicitDefEqProofs only [ev, ↓reduceIte, Nat.reduceAdd, reduceCtorEq, m_bits, c_bits, f1, f2, f3, f4, Int.toNat_natCast]; try rfl) ?_
    refine seqT (st1 := L ++ [.ns nmA [some (.int (x : Int))], .cell (some (.int (n : Int))), .cell (some (.ref (L.length + 5))), .cell (some (.ref (L.length + 6))), .list [.int 0], .list (List.replicate M [AV.int 0]).flatten, .fn ps body scope "_int2digits.<locals>.inner" [("n", L.length + 1), ("inner", L.length + 3), ("a_digits", L.length + 2)] P]) ?_ ?_
    · simp -implicitDefEqProofs only [ev, ↓reduceIte, Nat.reduceAdd, reduceCtorEq, xDef, hcode, pick3, hfree, List.zip_cons_cons, List.zip_nil_left, List.reverse_cons, List.reverse_nil]
    refine seqT (st1 := L ++ [.ns nmA [some (.int (x : Int))], .cell (some (.int (n : Int))), .cell (some (.ref (L.length + 5))), .cell (some (.ref (L.length + 6))), .list [.int 0], .list (nts (digN (2 ^ n) M x)), .fn ps body scope "_int2digits.<locals>.inner" [("n", L.length + 1), ("inner", L.length + 3), ("a_digits", L.length + 2)] P]) ?_ ?_
    · simp -implicitDefEqProofs only [ev, ↓reduceIte, Nat.reduceAdd, reduceCtorEq, tx, c_lenL (hlen _ _) (by rw [hrep]; omega), hrep, c_ref, hr]
    refine seqR ?_
    simp -implicitDefEqProofs only [ev, ↓reduceIte, Nat.reduceAdd, reduceCtorEq]
def sumI2d (aI : Addr) : CallF := fun f args kw st => match f, args, kw with
  | .old a, [.int x, .int n], [] => if a = aI ∧ 0 ≤ x ∧ 0 < n ∧ n ≤ 64 ∧ dlen x.toNat n.toNat ≤ 128 then some (.ref st.length, st ++ [.list (nts (digN (2 ^ n.toNat) (dlen x.toNat n.toNat) x.toNat))]) else .none
  | _, _, _ => .none
theorem nts_flat (l : List Nat) : (nts l).all AV.flat = true := by
  unfold nts
  rw [List.all_eq_true]
  intro x hx
  obtain ⟨y, _, rfl⟩ := List.mem_map.mp hx
  rfl
theorem i2d_told {aI cA : Addr} {r0 : MethF} (d : Nat) (hm : S.m = mOr mStr r0) (hfree : freeOf scope = (["a_digits", "inner", "n"] : List Str))
    (hpi : ∀ c (x y z : AV), prepC (S.R c) 60 ps body scope "_int2digits.<locals>.inner" ["n", "inner", "a_digits"] [x, y, z] = some ([.ns nmI [some x, some y, some z, none, none, none, none]], intIn c))
    (hp : ∀ c (x y : AV) L, ∃ code, isCode code cA = true ∧ prep S.K (S.R c) 60 aI [x, y] [] L = some (L, [.ns nmA [some x], .cell (some y), .cell none, .cell none], [1, 2, 3], code, intAct ps body scope cA P c S.m)) : S.CC (d + 9) (sumI2d aI) := by
  refine S.told (int_inner_told S (P := P) hpi 7 d).c fun f args kw st r h hw => ?_
  unfold sumI2d at h
  split at h
  · rename_i a x n
    split at h
    · rename_i hc
      cases h
      obtain ⟨rfl, h0, h1, h2, h3⟩ := hc
      obtain ⟨x, rfl⟩ := Int.eq_ofNat_of_zero_le h0
      obtain ⟨n, rfl⟩ := Int.eq_ofNat_of_zero_le (Int.le_of_lt h1)
      simp only [Int.toNat_natCast] at h3 ⊢
      obtain ⟨code, hcode, hp⟩ := hp (cOr blts (cRel (RI ps body scope P (2 ^ 7)))) (.int (x : Int)) (.int (n : Int)) st
      obtain ⟨g, hg, hr⟩ := int_run (ps := ps) (body := body) (P := P) (L := st) (r0 := r0) (N := 2 ^ 7) hcode hfree (by omega) (by omega) h3 (by decide)
      refine ⟨.ret (.ref (st.length + 5)), st ++ g, (run_prep hp).trans ?_, trim1 hw hg (nts_flat _)⟩
      rw [hm]
      exact hr
    · cases h
  · cases h
end
def nmD : List Str := ["L", "R", "mid", "shift"]
def digIn (c : CallF) : Act AFlow := (xSeq (xIf (tCmp .Eq (bBin .Add (bLoc nmD 0) (bVal (.int 1))) (bLoc nmD 1)) (xSeq (xRet (bItem (bCell 2) (bLoc nmD 0)))
  xPass) xPass)
  (xSeq (xAsg (bBin .RShift (bBin .Add (bLoc nmD 0) (bLoc nmD 1)) (bVal (.int 1))) [(gLoc nmD 2)])
  (xSeq (xAsg (bBin .Mult (bBin .Sub (bLoc nmD 2) (bLoc nmD 0)) (bCell 0)) [(gLoc nmD 3)])
  (xSeq (xRet (bBin .Add (bBin .LShift (bCall c (bCell 1) (lCons (bLoc nmD 2) (lCons (bLoc nmD 1) lNil)) kNil) (bLoc nmD 3)) (bCall c (bCell 1) (lCons (bLoc nmD 0) (lCons (bLoc nmD 2) lNil)) kNil)))
  xPass))))
def valN (B : Nat) : List Nat → Nat
  | [] => 0
  | d :: l => d + B * valN B l
theorem valN_app (B : Nat) : ∀ a b, valN B (a ++ b) = valN B a + B ^ a.length * valN B b
  | [], b => by simp [valN]
  | d :: a, b => by
    show d + B * valN B (a ++ b) = d + B * valN B a + _
    rw [valN_app B a b, List.length_cons, Nat.pow_succ, Nat.mul_add, Nat.mul_comm (B ^ a.length) B, Nat.mul_assoc, Nat.add_assoc]
theorem valN_lt (B : Nat) : ∀ a, (∀ x ∈ a, x < B) → valN B a < B ^ a.length
  | [], _ => by simp [valN]
  | d :: a, h => by
    have h1 := h d (List.mem_cons_self ..)
    have h2 := valN_lt B a fun x hx => h x (List.mem_cons_of_mem _ hx)
    show d + B * valN B a < _
    rw [List.length_cons, Nat.pow_succ, Nat.mul_comm (B ^ a.length) B]
    have : B * (valN B a + 1) ≤ B * B ^ a.length := Nat.mul_le_mul_left B h2
    rw [Nat.mul_add] at this
    omega
def part (ds : List Nat) (lo hi : Nat) : List Nat := (ds.drop lo).take (hi - lo)
theorem part_len {ds : List Nat} {lo hi : Nat} (h : hi ≤ ds.length) : (part ds lo hi).length = hi - lo := by unfold part; simp; omega
theorem part_app {ds : List Nat} {lo mid hi : Nat} (h1 : lo ≤ mid) (h2 : mid ≤ hi) : part ds lo hi = part ds lo mid ++ part ds mid hi := by
  unfold part
  rw [show hi - lo = (mid - lo) + (hi - mid) by omega, List.take_add, List.drop_drop]
  congr 3
  omega
theorem part_one {ds : List Nat} {lo x : Nat} (h : ds[lo]? = some x) : part ds lo (lo + 1) = [x] := by
  unfold part
  rw [Nat.add_sub_cancel_left]
  obtain ⟨h1, h2⟩ := List.getElem?_eq_some_iff.mp h
  rw [List.drop_eq_getElem_cons h1, h2]
  rfl
theorem part_mem {ds : List Nat} {lo hi x : Nat} (h : x ∈ part ds lo hi) : x ∈ ds := List.mem_of_mem_drop (List.mem_of_mem_take h)
structure DigAt (ps : Arguments) (body : List Stmt) (scope : Scope) (P : Addr) (st : St) (kf kn ki ka kd n : Nat) (ds : List Nat) : Prop where
  f : st[kf]? = some (.fn ps body scope "_digits2int.<locals>.inner" [("n", kn), ("inner", ki), ("digits", ka)] P)
  n : st[kn]? = some (.cell (some (.int (n : Int))))
  i : st[ki]? = some (.cell (some (.ref kf)))
  a : st[ka]? = some (.cell (some (.ref kd)))
  d : st[kd]? = some (.list (nts ds))
theorem nts_inj {a b : List Nat} (h : nts a = nts b) : a = b := by
  unfold nts at h
  induction a generalizing b with
  | nil => cases b with
    | nil => rfl
    | cons y b => simp at h
  | cons x a ih => cases b with
    | nil => simp at h
    | cons y b =>
      simp only [List.map_cons, List.cons.injEq, AV.int.injEq] at h
      rw [ih h.2]
      have := h.1
      congr 1
      omega
def RDg (ps : Arguments) (body : List Stmt) (scope : Scope) (P : Addr) (N : Nat) : AV → List AV → List (Str × AV) → St → AV × St → Prop := fun f args kw st r =>
  ∃ (kf kn ki ka kd n lo hi : Nat) (ds : List Nat), f = .ref kf ∧ args = [.int (lo : Int), .int (hi : Int)] ∧ kw = [] ∧ DigAt ps body scope P st kf kn ki ka kd n ds ∧
    (lo < hi ∧ hi ≤ ds.length ∧ hi - lo ≤ N ∧ (∀ x ∈ ds, x < 2 ^ n) ∧ n ≤ 64 ∧ ds.length ≤ 1000) ∧ r = (.int (valN (2 ^ n) (part ds lo hi) : Nat), st)
theorem RDg_uniq {ps : Arguments} {body : List Stmt} {scope : Scope} {P : Addr} {N : Nat} {f : AV} {args : List AV} {kw : List (Str × AV)} {st : St} {r r' : AV × St} (h : RDg ps body scope P N f args kw st r) (h' : RDg ps body scope P N f args kw st r') : r' = r := by
  obtain ⟨kf, kn, ki, ka, kd, n, lo, hi, ds, a1, a2, a3, a4, a5, rfl⟩ := h
  obtain ⟨kf', kn', ki', ka', kd', n', lo', hi', ds', b1, b2, b3, b4, b5, rfl⟩ := h'
  subst a1
  cases b1
  have e1 := a4.f
  rw [b4.f] at e1
  simp only [Option.some.injEq, AO.fn.injEq, List.cons.injEq, Prod.mk.injEq, true_and, and_true] at e1
  obtain ⟨rfl, rfl, rfl⟩ := e1
  have e2 := a4.n
  rw [b4.n] at e2
  simp only [Option.some.injEq, AO.cell.injEq, AV.int.injEq] at e2
  have e3 := a4.a
  rw [b4.a] at e3
  simp only [Option.some.injEq, AO.cell.injEq, AV.ref.injEq] at e3
  subst e3
  have e4 := a4.d
  rw [b4.d] at e4
  simp only [Option.some.injEq, AO.list.injEq] at e4
  have e5 := nts_inj e4
  subst e5
  rw [a2] at b2
  simp only [List.cons.injEq, AV.int.injEq, and_true] at b2
  obtain ⟨c1, c2⟩ := b2
  have : lo = lo' := by omega
  have : hi = hi' := by omega
  have : n = n' := by omega
  subst_vars
  rfl
theorem DigAt.app {ps : Arguments} {body : List Stmt} {scope : Scope} {P : Addr} {st : St} {kf kn ki ka kd n : Nat} {ds : List Nat} (h : DigAt ps body scope P st kf kn ki ka kd n ds) (R : St) : DigAt ps body scope P (st ++ R) kf kn ki ka kd n ds :=
  have up : ∀ {k : Nat} {ao : AO}, st[k]? = some ao → (st ++ R)[k]? = some ao := fun e => by rw [List.getElem?_append_left (List.getElem?_eq_some_iff.mp e).1]; exact e
  ⟨up h.f, up h.n, up h.i, up h.a, up h.d⟩
theorem nts_get {ds : List Nat} {i x : Nat} (h : ds[i]? = some x) : (nts ds)[i]? = some (.int (x : Int)) := by
  unfold nts
  rw [List.getElem?_map, h]
  rfl
theorem nts_len (ds : List Nat) : (nts ds).length = ds.length := by unfold nts; simp
theorem digIn_run {ps : Arguments} {body : List Stmt} {scope : Scope} {P : Addr} {st : St} {kf kn ki ka kd n lo hi M : Nat} {ds : List Nat} {code : Value} (h : DigAt ps body scope P st kf kn ki ka kd n ds) (h1 : lo < hi) (h2 : hi ≤ ds.length) (h3 : hi - lo ≤ 2 * M ∨ hi - lo ≤ 1) (h4 : ∀ x ∈ ds, x < 2 ^ n) (h5 : n ≤ 64) (h6 : ds.length ≤ 1000) :
    ∃ fr, digIn (cOr blts (cRel (RDg ps body scope P M))) ⟨st.length, [kn, ki, ka], code⟩ (st ++ [.ns nmD [some (.int (lo : Int)), some (.int (hi : Int)), none, none]]) = some (.ret (.int (valN (2 ^ n) (part ds lo hi) : Nat)), st ++ fr) := by
  have hn := fun R => (h.app R).n
  have hi' := fun R => (h.app R).i
  have ha := fun R => (h.app R).a
  have hd := fun R => (h.app R).d
  unfold digIn
  by_cases hc : hi = lo + 1
  · subst hc
    have c1 : decide ((lo : Int) + 1 = ((lo + 1 : Nat) : Int)) = true := by simp
    obtain ⟨x, hx⟩ : ∃ x, ds[lo]? = some x := ⟨_, List.getElem?_eq_getElem (by omega)⟩
    have c2 : (0 ≤ (lo : Int) ∧ (lo : Int) < 2 ^ 60) = True := eq_true ⟨by omega, by omega⟩
    have e0 : valN (2 ^ n) (part ds lo (lo + 1)) = x := by rw [part_one hx]; simp [valN]
    rw [e0]
    refine ⟨[.ns nmD [some (.int (lo : Int)), some (.int ((lo + 1 : Nat) : Int)), none, none]], seqR (st1 := st ++ [.ns nmD [some (.int (lo : Int)), some (.int ((lo + 1 : Nat) : Int)), none, none]]) ?_⟩
    simp -implicitDefEqProofs only [ev, ↓reduceIte, Nat.reduceAdd, reduceCtorEq, c1, ha, aitem, seqAt, hd, c2, Int.toNat_natCast, nts_get hx]
  · obtain ⟨mid, hmid⟩ : ∃ mid, mid = (lo + hi) / 2 := ⟨_, rfl⟩
    obtain ⟨s, hs⟩ : ∃ s, s = (mid - lo) * n := ⟨_, rfl⟩
    have m1 : lo < mid := by omega
    have m2 : mid < hi := by omega
    have hM : hi - lo ≤ 2 * M := by omega
    have hs64 : s ≤ 64 * 1000 := by
      rw [hs, Nat.mul_comm]
      exact Nat.mul_le_mul h5 (by omega)
    have hs' : s = n * (mid - lo) := by rw [hs, Nat.mul_comm]
    have hB : (2 ^ n) ^ (mid - lo) = 2 ^ s := by rw [hs', Nat.pow_mul]
    obtain ⟨u, hu⟩ : ∃ u, u = valN (2 ^ n) (part ds mid hi) := ⟨_, rfl⟩
    obtain ⟨v, hv⟩ : ∃ v, v = valN (2 ^ n) (part ds lo mid) := ⟨_, rfl⟩
    have hval : valN (2 ^ n) (part ds lo hi) = u * 2 ^ s + v := by
      rw [part_app (mid := mid) (by omega) (by omega), valN_app, part_len (by omega), hB, ← hu, ← hv, Nat.mul_comm, Nat.add_comm]
    have hult : u < 2 ^ (n * (hi - mid)) := by
      have := valN_lt (2 ^ n) (part ds mid hi) fun x hx => h4 x (part_mem hx)
      rw [part_len h2, ← Nat.pow_mul, ← hu] at this
      exact this
    have hb : Builtin.Int.intBits (u : Int) ≤ n * (hi - mid) := intBits_le hult
    have hb2 : n * (hi - mid) ≤ 64 * 1000 := Nat.mul_le_mul h5 (by omega)
    have c1 : decide ((lo : Int) + 1 = (hi : Int)) = false := by simp; omega
    have e0 : (0 ≤ (1 : Int)) = True := eq_true (by decide)
    have e1 : ((lo : Int) + (hi : Int)).fdiv (2 ^ (1 : Int).toNat) = (mid : Int) := by
      rw [show ((lo : Int) + (hi : Int)) = ((lo + hi : Nat) : Int) by simp, show (1 : Int).toNat = 1 from rfl, fdiv_pow, hmid]
    have e2 : ((mid : Int) - (lo : Int)) * (n : Int) = (s : Int) := by
      rw [hs, Int.natCast_mul, Int.natCast_sub (by omega)]
    have e4 : (0 ≤ (s : Int) ∧ (Builtin.Int.intBits (u : Int) : Int) + (s : Int) ≤ 2 ^ 27) = True := eq_true ⟨by omega, by omega⟩
    have e5 : ((u : Int) * 2 ^ s + (v : Int)) = ((u * 2 ^ s + v : Nat) : Int) := by simp
    have e6 : (small ((mid : Int) - (lo : Int)) || small (n : Int)) = true := by
      have : small (n : Int) = true := decide_eq_true ⟨by omega, by omega⟩
      rw [this, Bool.or_true]
    have hr1 : ∀ R, cRel (RDg ps body scope P M) (.ref kf) [.int (mid : Int), .int (hi : Int)] [] (st ++ R) = some (.int (u : Int), st ++ R) := fun R => by
      have hR : RDg ps body scope P M (.ref kf) [.int (mid : Int), .int (hi : Int)] [] (st ++ R) (.int (u : Int), st ++ R) :=
        ⟨kf, kn, ki, ka, kd, n, mid, hi, ds, rfl, rfl, rfl, h.app R, ⟨m2, h2, by omega, h4, h5, h6⟩, by rw [hu]⟩
      exact cRel_of hR fun r' h' => RDg_uniq hR h'
    have hr2 : ∀ R, cRel (RDg ps body scope P M) (.ref kf) [.int (lo : Int), .int (mid : Int)] [] (st ++ R) = some (.int (v : Int), st ++ R) := fun R => by
      have hR : RDg ps body scope P M (.ref kf) [.int (lo : Int), .int (mid : Int)] [] (st ++ R) (.int (v : Int), st ++ R) :=
        ⟨kf, kn, ki, ka, kd, n, lo, mid, ds, rfl, rfl, rfl, h.app R, ⟨m1, by omega, by omega, h4, h5, h6⟩, by rw [hv]⟩
      exact cRel_of hR fun r' h' => RDg_uniq hR h'
    rw [hval]
    refine ⟨[.ns nmD [some (.int (lo : Int)), some (.int (hi : Int)), some (.int (mid : Int)), some (.int (s : Int))]], ?_⟩
    refine seqT (by simp -implicitDefEqProofs only [ev, ↓reduceIte, Nat.reduceAdd, reduceCtorEq, c1]; try rfl) ?_
    refine seqT (by simp -implicitDefEqProofs only [ev, ↓reduceIte, Nat.reduceAdd, reduceCtorEq, e0, e1]; try rfl) ?_
    refine seqT (by simp -implicitDefEqProofs only [ev, ↓reduceIte, Nat.reduceAdd, reduceCtorEq, hn, e6, e2]; try rfl) ?_
    refine seqR ?_
    simp -implicitDefEqProofs only [ev, ↓reduceIte, Nat.reduceAdd, reduceCtorEq, hi', c_ref, hr1, hr2, e4, Int.toNat_natCast, e5]
section
variable {prog : Program} {w : World} {mg mb : Str → Option Value} {X : Heap → List TabD → Prop} (S : Sys prog w mg mb X) {ps : Arguments} {body : List Stmt} {scope : Scope} {P : Addr}
theorem dig_inner_told (hp : ∀ c (x y : AV), prepC (S.R c) 60 ps body scope "_digits2int.<locals>.inner" ["n", "inner", "digits"] [x, y] = some ([.ns nmD [some x, some y, none, none]], digIn c)) :
    ∀ (j d : Nat), S.CC (d + j + 1) (cRel (RDg ps body scope P (2 ^ j))) := by
  have step : ∀ M N d, (N ≤ 2 * M ∨ N ≤ 1) → S.C d (cRel (RDg ps body scope P M)) → S.CC (d + 1) (cRel (RDg ps body scope P N)) := fun M N d hN hq => by
    refine S.told hq fun f args kw st r h hw => ?_
    obtain ⟨kf, kn, ki, ka, kd, n, lo, hi, ds, rfl, rfl, rfl, h1, ⟨h2, h3, h4, h5, h6, h7⟩, rfl⟩ := cRel_some h
    obtain ⟨fr, g2⟩ := digIn_run (M := M) (code := .none) h1 h2 h3 (by omega) h5 h6 h7
    exact ⟨_, _, (run_prepC h1.f (hp _ _ _)).trans g2, trim0 hw rfl⟩
  intro j
  induction j with
  | zero =>
    intro d
    refine step 0 1 d (.inr (Nat.le_refl _)) fun B f args kw st r hB h => ?_
    obtain ⟨kf, kn, ki, ka, kd, n, lo, hi, ds, _, _, _, _, ⟨h2, h3, h4, _⟩, _⟩ := cRel_some h
    omega
  | succ j ih =>
    intro d
    exact step (2 ^ j) (2 ^ (j + 1)) (d + j + 1) (.inl (by rw [Nat.pow_succ]; omega)) (ih d).c
def digAct (ps : Arguments) (body : List Stmt) (scope : Scope) (cA P : Addr) (c : CallF) : Act AFlow := (xSeq (xDef cA P ps body scope ("_digits2int.<locals>.inner" : Str) [0, 2, 1] (gCell 2))
  (xSeq (xRet (bIte (tVal (bCell 0)) (bCall c (bCell 2) (lCons (bVal (.int 0)) (lCons (bCall c (bVal (.blt "len")) (lCons (bCell 0) lNil) kNil) lNil)) kNil) (bVal (.int 0))))
  xPass))
theorem pick3b {a b c : Nat} : pick [a, b, c] [0, 2, 1] = some [a, c, b] := rfl
theorem atruL {st : St} {k : Nat} {xs : List AV} (h : st[k]? = some (.list xs)) (h2 : xs.length ≤ 1000) : atru (.ref k) st = some (!xs.isEmpty) := by
  unfold atru listAt
  dsimp only
  rw [h]
  simp [h2]
theorem dig_run {L : St} {code : Value} {cA : Addr} {n N kd : Nat} {ds : List Nat} (hcode : isCode code cA = true) (hfree : freeOf scope = (["digits", "inner", "n"] : List Str)) (hkd : L[kd]? = some (.list (nts ds))) (h4 : ∀ x ∈ ds, x < 2 ^ n) (h2 : n ≤ 64) (h3 : ds.length ≤ N) (h6 : ds.length ≤ 1000) :
    ∃ g, digAct ps body scope cA P (cOr blts (cRel (RDg ps body scope P N))) ⟨L.length, [L.length + 1, L.length + 2, L.length + 3], code⟩
      (L ++ [.ns [] [], .cell (some (.ref kd)), .cell (some (.int (n : Int))), .cell none]) = some (.ret (.int (valN (2 ^ n) ds : Nat)), L ++ g) := by
  have hd : ∀ R, (L ++ R)[kd]? = some (.list (nts ds)) := fun R => by rw [List.getElem?_append_left (List.getElem?_eq_some_iff.mp hkd).1]; exact hkd
  refine ⟨[.ns [] [], .cell (some (.ref kd)), .cell (some (.int (n : Int))), .cell (some (.ref (L.length + 4))), .fn ps body scope "_digits2int.<locals>.inner" [("n", L.length + 2), ("inner", L.length + 3), ("digits", L.length + 1)] P], ?_⟩
  unfold digAct
  have hst : DigAt ps body scope P (L ++ [.ns [] [], .cell (some (.ref kd)), .cell (some (.int (n : Int))), .cell (some (.ref (L.length + 4))), .fn ps body scope "_digits2int.<locals>.inner" [("n", L.length + 2), ("inner", L.length + 3), ("digits", L.length + 1)] P]) (L.length + 4) (L.length + 2) (L.length + 3) (L.length + 1) kd n ds :=
    ⟨by rw [getK]; rfl, by rw [getK]; rfl, by rw [getK]; rfl, by rw [getK]; rfl, hd _⟩
  refine seqT (st1 := L ++ [.ns [] [], .cell (some (.ref kd)), .cell (some (.int (n : Int))), .cell (some (.ref (L.length + 4))), .fn ps body scope "_digits2int.<locals>.inner" [("n", L.length + 2), ("inner", L.length + 3), ("digits", L.length + 1)] P]) ?_ ?_
  · simp -implicitDefEqProofs only [ev, ↓reduceIte, Nat.reduceAdd, reduceCtorEq, xDef, hcode, pick3b, hfree, List.zip_cons_cons, List.zip_nil_left, List.reverse_cons, List.reverse_nil]
  have tx : ∀ R, atru (.ref kd) (L ++ R) = some (!(nts ds).isEmpty) := fun R => atruL (hd R) (by rw [nts_len]; exact h6)
  have ln : ∀ R, cOr blts (cRel (RDg ps body scope P N)) (.blt "len") [.ref kd] [] (L ++ R) = some (.int ((nts ds).length : Int), L ++ R) := fun R => c_lenL (hd R) (by rw [nts_len]; omega)
  cases ds with
  | nil =>
    refine seqR ?_
    have t0 : (nts []).isEmpty = true := rfl
    simp -implicitDefEqProofs only [ev, ↓reduceIte, Nat.reduceAdd, reduceCtorEq, tx, t0, valN, Int.ofNat_zero, Int.cast_ofNat_Int]
  | cons d ds =>
    have t0 : (nts (d :: ds)).isEmpty = false := rfl
    have hr : cRel (RDg ps body scope P N) (.ref (L.length + 4)) [.int 0, .int ((d :: ds).length : Int)] [] (L ++ [.ns [] [], .cell (some (.ref kd)), .cell (some (.int (n : Int))), .cell (some (.ref (L.length + 4))), .fn ps body scope "_digits2int.<locals>.inner" [("n", L.length + 2), ("inner", L.length + 3), ("digits", L.length + 1)] P]) =
        some (.int (valN (2 ^ n) (d :: ds) : Nat), (L ++ [.ns [] [], .cell (some (.ref kd)), .cell (some (.int (n : Int))), .cell (some (.ref (L.length + 4))), .fn ps body scope "_digits2int.<locals>.inner" [("n", L.length + 2), ("inner", L.length + 3), ("digits", L.length + 1)] P])) := by
      have hR : RDg ps body scope P N (.ref (L.length + 4)) [.int 0, .int ((d :: ds).length : Int)] [] (L ++ [.ns [] [], .cell (some (.ref kd)), .cell (some (.int (n : Int))), .cell (some (.ref (L.length + 4))), .fn ps body scope "_digits2int.<locals>.inner" [("n", L.length + 2), ("inner", L.length + 3), ("digits", L.length + 1)] P])
        (.int (valN (2 ^ n) (d :: ds) : Nat), (L ++ [.ns [] [], .cell (some (.ref kd)), .cell (some (.int (n : Int))), .cell (some (.ref (L.length + 4))), .fn ps body scope "_digits2int.<locals>.inner" [("n", L.length + 2), ("inner", L.length + 3), ("digits", L.length + 1)] P])) :=
        ⟨_, _, _, _, kd, n, 0, (d :: ds).length, _, rfl, rfl, rfl, hst, ⟨by simp, Nat.le_refl _, by omega, h4, h2, h6⟩, by unfold part; simp⟩
      exact cRel_of hR fun r' h' => RDg_uniq hR h'
    refine seqR ?_
    simp only [List.length_cons] at hr
    simp -implicitDefEqProofs only [ev, ↓reduceIte, Nat.reduceAdd, reduceCtorEq, tx, t0, ln, nts_len, c_ref, hr]
def natsOf : List AV → Option (List Nat)
  | [] => some []
  | .int x :: r => if 0 ≤ x then (natsOf r).map (x.toNat :: ·) else .none
  | _ => .none
theorem natsOf_nts (l : List Nat) : natsOf (nts l) = some l := by
  induction l with
  | nil => rfl
  | cons x l ih =>
    show (if 0 ≤ (x : Int) then (natsOf (nts l)).map ((x : Int).toNat :: ·) else .none) = _
    rw [if_pos (Int.natCast_nonneg _), ih]
    rfl
theorem nts_natsOf : ∀ {xs : List AV} {l : List Nat}, natsOf xs = some l → xs = nts l
  | [], l, h => by cases h; rfl
  | .int x :: r, l, h => by
    unfold natsOf at h
    split at h
    · rename_i h0
      obtain ⟨l', h1, rfl⟩ := Option.map_eq_some_iff.mp h
      rw [nts_natsOf h1]
      show _ = AV.int ((x.toNat : Nat) : Int) :: _
      rw [Int.toNat_of_nonneg h0]
      rfl
    · cases h
  | .none :: r, l, h => by cases h
  | .bool _ :: r, l, h => by cases h
  | .str _ :: r, l, h => by cases h
  | .typ _ :: r, l, h => by cases h
  | .blt _ :: r, l, h => by cases h
  | .old _ :: r, l, h => by cases h
  | .ref _ :: r, l, h => by cases h
def sumD2i (aD : Addr) : CallF := fun f args kw st => match f, args, kw with
  | .old a, [.ref k, .int n], [] => (listAt st k).bind fun xs => (natsOf xs).bind fun ds => if a = aD ∧ 0 ≤ n ∧ n ≤ 64 ∧ ds.length ≤ 128 ∧ ds.all (fun x => decide (x < 2 ^ n.toNat)) = true then some (.int (valN (2 ^ n.toNat) ds : Nat), st) else .none
  | _, _, _ => .none
theorem listAt_some {st : St} {k : Nat} {xs : List AV} (h : listAt st k = some xs) : st[k]? = some (.list xs) := by
  unfold listAt at h
  split at h
  · rename_i e; cases h; exact e
  · cases h
theorem d2i_told {aD cA : Addr} (d : Nat) (hfree : freeOf scope = (["digits", "inner", "n"] : List Str))
    (hpi : ∀ c (x y : AV), prepC (S.R c) 60 ps body scope "_digits2int.<locals>.inner" ["n", "inner", "digits"] [x, y] = some ([.ns nmD [some x, some y, none, none]], digIn c))
    (hp : ∀ c (x y : AV) L, ∃ code, isCode code cA = true ∧ prep S.K (S.R c) 60 aD [x, y] [] L = some (L, [.ns [] [], .cell (some x), .cell (some y), .cell none], [1, 2, 3], code, digAct ps body scope cA P c)) : S.CC (d + 9) (sumD2i aD) := by
  refine S.told (dig_inner_told S (P := P) hpi 7 d).c fun f args kw st r h hw => ?_
  unfold sumD2i at h
  split at h
  · rename_i a k n
    obtain ⟨xs, e1, h⟩ := bind2 h
    obtain ⟨ds, e2, h⟩ := bind2 h
    split at h
    · rename_i hc
      cases h
      obtain ⟨rfl, h1, h2, h3, h4⟩ := hc
      obtain ⟨n, rfl⟩ := Int.eq_ofNat_of_zero_le h1
      simp only [Int.toNat_natCast] at h4 ⊢
      have e3 := listAt_some e1
      rw [nts_natsOf e2] at e3
      obtain ⟨code, hcode, hp⟩ := hp (cOr blts (cRel (RDg ps body scope P (2 ^ 7)))) (.ref k) (.int (n : Int)) st
      obtain ⟨g, hr⟩ := dig_run (ps := ps) (body := body) (P := P) (L := st) (N := 2 ^ 7) hcode hfree e3 (fun x hx => by simpa using List.all_eq_true.mp h4 x hx) (by omega) h3 (by omega)
      exact ⟨_, _, (run_prep hp).trans hr, trim0 hw rfl⟩
    · cases h
  · cases h
end
def nmV : List Str := ["a", "b", "n", "pad", "half_n", "mask", "b1", "b2", "q1", "r", "q2"]
def divAct (c : CallF) (m : MethF) : Act AFlow := (xSeq (xIf (tCmp .LtE (bBin .Sub (bMeth c m (bLoc nmV 0) ("bit_length" : Str) lNil kNil) (bLoc nmV 2)) (bVal (.int 4000))) (xSeq (xRet (bCall c (bVal (.blt "divmod")) (lCons (bLoc nmV 0) (lCons (bLoc nmV 1) lNil)) kNil))
  xPass) xPass)
  (xSeq (xAsg (bBin .BitAnd (bLoc nmV 2) (bVal (.int 1))) [(gLoc nmV 3)])
  (xSeq (xIf (tVal (bLoc nmV 3)) (xSeq (xAug .LShift (bLoc nmV 0) (bVal (.int 1)) (gLoc nmV 0))
  (xSeq (xAug .LShift (bLoc nmV 1) (bVal (.int 1)) (gLoc nmV 1))
  (xSeq (xAug .Add (bLoc nmV 2) (bVal (.int 1)) (gLoc nmV 2))
  xPass))) xPass)
  (xSeq (xAsg (bBin .RShift (bLoc nmV 2) (bVal (.int 1))) [(gLoc nmV 4)])
  (xSeq (xAsg (bBin .Sub (bBin .LShift (bVal (.int 1)) (bLoc nmV 4)) (bVal (.int 1))) [(gLoc nmV 5)])
  (xSeq xFail
  (xSeq xFail
  (xSeq xFail
  (xSeq (xIf (tVal (bLoc nmV 3)) (xSeq (xAug .RShift (bLoc nmV 9) (bVal (.int 1)) (gLoc nmV 9))
  xPass) xPass)
  (xSeq (xRet (bTup (lCons (bBin .BitOr (bBin .LShift (bLoc nmV 8) (bLoc nmV 4)) (bLoc nmV 10)) (lCons (bLoc nmV 9) lNil))))
  xPass))))))))))
def nmP : List Str := ["a", "b", "n", "a_digits", "r", "q_digits", "a_digit", "q_digit", "q"]
def dpIn (aV : Addr) (c : CallF) (m : MethF) : Act AFlow := (xSeq (xAsg (bCall c (bVal (.old aV)) (lCons (bBin .Add (bBin .LShift (bLoc nmP 4) (bLoc nmP 2)) (bLoc nmP 6)) (lCons (bLoc nmP 1) (lCons (bLoc nmP 2) lNil))) kNil) [(gTup [(gLoc nmP 7), (gLoc nmP 4)])])
  (xSeq (xExpr (bMeth c m (bLoc nmP 5) ("append" : Str) (lCons (bLoc nmP 7) lNil) kNil))
  xPass))
def dpAct (aI aV aD : Addr) (c : CallF) (m : MethF) : Act AFlow := (xSeq (xAsg (bMeth c m (bLoc nmP 1) ("bit_length" : Str) lNil kNil) [(gLoc nmP 2)])
  (xSeq (xAsg (bCall c (bVal (.old aI)) (lCons (bLoc nmP 0) (lCons (bLoc nmP 2) lNil)) kNil) [(gLoc nmP 3)])
  (xSeq (xAsg (bVal (.int 0)) [(gLoc nmP 4)])
  (xSeq (xAsg (bList lNil) [(gLoc nmP 5)])
  (xSeq (xFor (iCall (bVal (.typ "reversed")) (lCons (bLoc nmP 3) lNil)) (gLoc nmP 6) (dpIn aV c m) xPass)
  (xSeq (xExpr (bMeth c m (bLoc nmP 5) ("reverse" : Str) lNil kNil))
  (xSeq (xAsg (bCall c (bVal (.old aD)) (lCons (bLoc nmP 5) (lCons (bLoc nmP 2) lNil)) kNil) [(gLoc nmP 8)])
  (xSeq (xRet (bTup (lCons (bLoc nmP 8) (lCons (bLoc nmP 4) lNil))))
  xPass))))))))
def nmM : List Str := ["a", "b", "q", "r"]
def dmAct (aM aP : Addr) (c : CallF) : Act AFlow := (xSeq (xIf (tCmp .Eq (bLoc nmM 1) (bVal (.int 0))) (xSeq xFail
  xPass) (xSeq (xIf (tCmp .Lt (bLoc nmM 1) (bVal (.int 0))) (xSeq (xAsg (bCall c (bVal (.old aM)) (lCons (bUn .USub (bLoc nmM 0)) (lCons (bUn .USub (bLoc nmM 1)) lNil)) kNil) [(gTup [(gLoc nmM 2), (gLoc nmM 3)])])
  (xSeq (xRet (bTup (lCons (bLoc nmM 2) (lCons (bUn .USub (bLoc nmM 3)) lNil))))
  xPass)) (xSeq (xIf (tCmp .Lt (bLoc nmM 0) (bVal (.int 0))) (xSeq (xAsg (bCall c (bVal (.old aM)) (lCons (bUn .Invert (bLoc nmM 0)) (lCons (bLoc nmM 1) lNil)) kNil) [(gTup [(gLoc nmM 2), (gLoc nmM 3)])])
  (xSeq (xRet (bTup (lCons (bUn .Invert (bLoc nmM 2)) (lCons (bBin .Add (bLoc nmM 1) (bUn .Invert (bLoc nmM 3))) lNil))))
  xPass)) (xSeq (xRet (bCall c (bVal (.old aP)) (lCons (bLoc nmM 0) (lCons (bLoc nmM 1) lNil)) kNil))
  xPass))
  xPass))
  xPass))
  xPass)
theorem pylong_no {a b : Int} (h : b.natAbs < 2 ^ 64) : Builtin.divisionGoesByPylong a b = false := by
  unfold Builtin.divisionGoesByPylong
  by_cases h0 : b = 0
  · subst h0; simp
  · have hb : (b == 0) = false := by simpa using h0
    have : b.natAbs.log2 < 64 := (Nat.log2_lt (by omega)).mpr h
    have h2 : b.natAbs.log2 / 30 + 1 ≤ 300 := by omega
    simp only [hb, Bool.false_eq_true, if_false, gt_iff_lt]
    rw [decide_eq_false (by omega)]
    rfl
theorem valN_digN (B : Nat) (hB : 0 < B) : ∀ m x, valN B (digN B m x) = x % B ^ m
  | 0, x => by simp [digN, valN, Nat.mod_one]
  | m + 1, x => by
    show x % B + B * valN B (digN B m (x / B)) = _
    rw [valN_digN B hB m, Nat.pow_succ, Nat.mul_comm (B ^ m) B, Nat.mod_mul]
theorem digN_lt (B : Nat) (hB : 0 < B) : ∀ m x, ∀ y ∈ digN B m x, y < B
  | 0, x, y, h => by cases h
  | m + 1, x, y, h => by
    rcases List.mem_cons.mp h with rfl | h
    · exact Nat.mod_lt _ hB
    · exact digN_lt B hB m _ y h
theorem lt_dlen {x n : Nat} (hn : 0 < n) : x < (2 ^ n) ^ dlen x n := by
  rw [← Nat.pow_mul]
  by_cases hx : x = 0
  · subst hx; exact pow_two_pos _
  · have hb1 : Builtin.Int.intBits (x : Int) = x.log2 + 1 := by
      unfold Builtin.Int.intBits
      have : ((x : Int) == 0) = false := by simpa using hx
      rw [this]
      simp
    have hM1 : x.log2 + 1 ≤ n * dlen x n := by
      unfold dlen
      rw [hb1]
      have := Nat.div_add_mod (x.log2 + 1 + n - 1) n
      have := Nat.mod_lt (x.log2 + 1 + n - 1) hn
      omega
    exact Nat.lt_of_lt_of_le Nat.lt_log2_self (Nat.pow_le_pow_right (by omega) hM1)
def sumDiv (aV : Addr) : CallF := fun f args kw st => match f, args, kw with
  | .old a, [.int x, .int b, .int n], [] => if a = aV ∧ 0 ≤ x ∧ 0 < b ∧ b < 2 ^ 64 ∧ 0 ≤ n ∧ Builtin.Int.intBits x ≤ 4000 then some (.ref st.length, st ++ [.tup [.int (x.toNat / b.toNat : Nat), .int (x.toNat % b.toNat : Nat)]]) else .none
  | _, _, _ => .none
def sumDp (aP : Addr) : CallF := fun f args kw st => match f, args, kw with
  | .old a, [.int x, .int b], [] => if a = aP ∧ 0 ≤ x ∧ 0 < b ∧ b < 2 ^ 64 ∧ x < 2 ^ 120 then some (.ref st.length, st ++ [.tup [.int (x.toNat / b.toNat : Nat), .int (x.toNat % b.toNat : Nat)]]) else .none
  | _, _, _ => .none
theorem fmod_nat (a b : Nat) : (a : Int).fmod (b : Int) = ((a % b : Nat) : Int) := by
  rw [Int.fmod_eq_emod_of_nonneg _ (Int.natCast_nonneg _)]
  rfl
theorem c_divmod {q : CallF} {st : St} {x b : Nat} (h0 : 0 < b) (h : b < 2 ^ 64) : cOr blts q (.blt "divmod") [.int (x : Int), .int (b : Int)] [] st = some (.ref st.length, st ++ [.tup [.int (x / b : Nat), .int (x % b : Nat)]]) := by
  have : cDivmod (.blt "divmod") [.int (x : Int), .int (b : Int)] [] st = some (.ref st.length, st ++ [.tup [.int (x / b : Nat), .int (x % b : Nat)]]) := by
    show (if ((b : Int) ≠ 0 ∧ Builtin.divisionGoesByPylong (x : Int) (b : Int) = false) then some (AV.ref st.length, st ++ [.tup [.int ((x : Int).fdiv (b : Int)), .int ((x : Int).fmod (b : Int))]]) else none) = _
    rw [if_pos ⟨by omega, pylong_no (by omega)⟩, fdiv_nat, fmod_nat]
  exact cor_l (cor_r rfl (cor_r rfl (cor_r rfl (cor_r rfl (cor_r rfl (cor_r rfl (cor_r rfl (cor_l this))))))))
section
variable {prog : Program} {w : World} {mg mb : Str → Option Value} {X : Heap → List TabD → Prop} (S : Sys prog w mg mb X)
theorem div_told {aV : Addr} {r0 : MethF} (d : Nat) (hm : S.m = mOr mStr r0) (hp : ∀ c (x y z : AV) L, ∃ code, prep S.K (S.R c) 60 aV [x, y, z] [] L = some (L, [.ns nmV [some x, some y, some z, none, none, none, none, none, none, none, none]], [], code, divAct c S.m)) : S.CC (d + 1) (sumDiv aV) := by
  refine S.told S.none_sound fun f args kw st r h hw => ?_
  unfold sumDiv at h
  split at h
  · rename_i a x b n
    split at h
    · rename_i hc
      cases h
      obtain ⟨rfl, h0, h1, h2, h3, h4⟩ := hc
      obtain ⟨x, rfl⟩ := Int.eq_ofNat_of_zero_le h0
      obtain ⟨b, rfl⟩ := Int.eq_ofNat_of_zero_le (Int.le_of_lt h1)
      simp only [Int.toNat_natCast]
      obtain ⟨code, hp⟩ := hp (cOr blts fun _ _ _ _ => .none) (.int (x : Int)) (.int (b : Int)) (.int n) st
      have c1 : decide ((Builtin.Int.intBits (x : Int) : Int) - n ≤ 4000) = true := by simp; omega
      refine ⟨.ret (.ref (st.length + 1)), st ++ [.ns nmV [some (.int (x : Int)), some (.int (b : Int)), some (.int n), none, none, none, none, none, none, none, none], .tup [.int (x / b : Nat), .int (x % b : Nat)]], (run_prep hp).trans ?_, trim1 hw rfl rfl⟩
      unfold divAct
      refine seqR ?_
      rw [hm]
      simp -implicitDefEqProofs only [ev, ↓reduceIte, Nat.reduceAdd, reduceCtorEq, List.map_nil, m_bits, c_bits, c1, c_divmod (by omega : 0 < b) (by omega : b < 2 ^ 64)]
    · cases h
  · cases h
theorem inext_rev {st : St} {k n i : Nat} {xs : List AV} {v : AV} (h : st[k]? = some (.list xs)) (hn : xs.length = n) (hi : i < n) (hv : xs[n - 1 - i]? = some v) : inext (.rev k n) i st = some (some v) := by
  unfold inext itemsAt
  dsimp only
  rw [h]
  dsimp only
  rw [Option.bind_some, if_pos hn, if_pos hi, hv]
theorem inext_rev_end {st : St} {k n i : Nat} {xs : List AV} (h : st[k]? = some (.list xs)) (hn : xs.length = n) (hi : n ≤ i) : inext (.rev k n) i st = some none := by
  unfold inext itemsAt
  dsimp only
  rw [h]
  dsimp only
  rw [Option.bind_some, if_pos hn, if_neg (by omega)]
theorem m_append {r : MethF} {st : St} {k : Nat} {xs : List AV} (h : st[k]? = some (.list xs)) : mOr mStr r (.ref k) ("append" : Str) st = some (.blt "list.append", [.ref k]) := by
  unfold mOr mStr listAt
  dsimp only
  rw [h]
  rfl
theorem m_reverse {r : MethF} {st : St} {k : Nat} {xs : List AV} (h : st[k]? = some (.list xs)) : mOr mStr r (.ref k) ("reverse" : Str) st = some (.blt "list.reverse", [.ref k]) := by
  unfold mOr mStr listAt
  dsimp only
  rw [h]
  rfl
theorem c_append {q : CallF} {st : St} {k : Nat} {v : AV} {xs : List AV} (h : st[k]? = some (.list xs)) (h2 : xs.length ≤ 1000000) : cOr blts q (.blt "list.append") [.ref k, v] [] st = some (.none, st.set k (.list (xs ++ [v]))) := by
  have : cListM (.blt "list.append") [.ref k, v] [] st = some (.none, st.set k (.list (xs ++ [v]))) := by
    show (appendAt k v st).map (fun st' => (AV.none, st')) = _
    unfold appendAt
    rw [h]
    dsimp only
    rw [if_pos h2]
    rfl
  exact cor_l (cor_r rfl (cor_r rfl (cor_r rfl (cor_r rfl (cor_r rfl (cor_r rfl (cor_r rfl (cor_r rfl (cor_r rfl this)))))))))
theorem c_reverse {q : CallF} {st : St} {k : Nat} {xs : List AV} (h : st[k]? = some (.list xs)) (h2 : xs.length ≤ 1000000) : cOr blts q (.blt "list.reverse") [.ref k] [] st = some (.none, st.set k (.list xs.reverse)) := by
  have : cListM (.blt "list.reverse") [.ref k] [] st = some (.none, st.set k (.list xs.reverse)) := by
    show (listAt st k).bind (fun xs => if xs.length ≤ 1000000 then some (AV.none, st.set k (.list xs.reverse)) else .none) = _
    unfold listAt
    rw [h]
    dsimp only
    rw [Option.bind_some, if_pos h2]
  exact cor_l (cor_r rfl (cor_r rfl (cor_r rfl (cor_r rfl (cor_r rfl (cor_r rfl (cor_r rfl (cor_r rfl (cor_r rfl this)))))))))
def dpS (x b n : Nat) (k : Nat) (ds qs : List Nat) (r : Int) (dg qg : Option AV) : St :=
  [.ns nmP [some (.int (x : Int)), some (.int (b : Int)), some (.int (n : Int)), some (.ref (k + 1)), some (.int r), some (.ref (k + 2)), dg, qg, none], .list (nts ds), .list (nts qs)]
theorem dp_loop {q : CallF} {r0 : MethF} {L : St} {code : Value} {aV : Addr} {x b n : Nat} {ds : List Nat} (hq : ∀ (y : Nat) st, y < 2 ^ 128 → q (.old aV) [.int (y : Int), .int (b : Int), .int (n : Int)] [] st = some (.ref st.length, st ++ [.tup [.int (y / b : Nat), .int (y % b : Nat)]]))
    (hb : 0 < b) (hbn : b < 2 ^ n) (hn : n ≤ 64) (hds : ∀ y ∈ ds, y < 2 ^ n) (hl : ds.length ≤ 128) : ∀ (j i fuel : Nat) (qs : List Nat) (dg qg : Option AV) (G : St), i + j = ds.length → j < fuel → qs.length = i → valN (2 ^ n) qs.reverse = valN (2 ^ n) (ds.drop j) / b → (∀ y ∈ qs, y < 2 ^ n) →
    ∃ qs' dg' qg' G', valN (2 ^ n) qs'.reverse = valN (2 ^ n) ds / b ∧ (∀ y ∈ qs', y < 2 ^ n) ∧ qs'.length = ds.length ∧ forGo (.rev (L.length + 1) ds.length) (gLoc nmP 6) (dpIn aV (cOr blts q) (mOr mStr r0)) xPass ⟨L.length, [], code⟩ fuel i (L ++ (dpS x b n L.length ds qs (valN (2 ^ n) (ds.drop j) % b : Nat) dg qg ++ G)) =
      some (.next, L ++ (dpS x b n L.length ds qs' (valN (2 ^ n) ds % b : Nat) dg' qg' ++ G')) := by
  intro j
  induction j with
  | zero =>
    intro i fuel qs dg qg G hi hf hqs hv hlt
    obtain ⟨f, rfl⟩ : ∃ f, fuel = f + 1 := ⟨fuel - 1, by omega⟩
    rw [List.drop_zero] at hv ⊢
    refine ⟨qs, dg, qg, G, hv, hlt, by omega, for_end (inext_rev_end (xs := nts ds) ?_ (nts_len _) (by omega)) rfl⟩
    unfold dpS
    rw [getK]; rfl
  | succ j ih =>
    intro i fuel qs dg qg G hi hf hqs hv hlt
    obtain ⟨f, rfl⟩ : ∃ f, fuel = f + 1 := ⟨fuel - 1, by omega⟩
    obtain ⟨dd, hdd⟩ : ∃ dd, ds[j]? = some dd := ⟨_, List.getElem?_eq_getElem (by omega)⟩
    have hdr : ds.drop j = dd :: ds.drop (j + 1) := by
      obtain ⟨h1, h2⟩ := List.getElem?_eq_some_iff.mp hdd
      rw [List.drop_eq_getElem_cons h1, h2]
    have hdl : dd < 2 ^ n := hds dd (List.mem_of_getElem? hdd)
    obtain ⟨V, hV⟩ : ∃ V, V = valN (2 ^ n) (ds.drop (j + 1)) := ⟨_, rfl⟩
    rw [← hV] at hv ⊢
    obtain ⟨y, hy⟩ : ∃ y, y = V % b * 2 ^ n + dd := ⟨_, rfl⟩
    have hr : V % b < b := Nat.mod_lt _ hb
    have hyb : y < b * 2 ^ n := by
      have : (V % b + 1) * 2 ^ n ≤ b * 2 ^ n := Nat.mul_le_mul_right _ hr
      rw [Nat.add_mul] at this
      omega
    have h2n : 2 ^ n ≤ 2 ^ 64 := Nat.pow_le_pow_right (by omega) hn
    have hy128 : y < 2 ^ 128 := by
      have : b * 2 ^ n ≤ 2 ^ 64 * 2 ^ 64 := Nat.mul_le_mul (by omega) h2n
      omega
    have hV' : valN (2 ^ n) (ds.drop j) = y + b * (V / b * 2 ^ n) := by
      rw [hdr]
      show dd + 2 ^ n * valN (2 ^ n) (ds.drop (j + 1)) = _
      rw [← hV, hy]
      have := Nat.div_add_mod V b
      have e : 2 ^ n * V = b * (V / b * 2 ^ n) + V % b * 2 ^ n := by
        conv => lhs; rw [← this]
        rw [Nat.mul_add, Nat.mul_comm (2 ^ n) (V % b), Nat.mul_comm (2 ^ n) (b * (V / b)), Nat.mul_assoc]
      omega
    have hmod : valN (2 ^ n) (ds.drop j) % b = y % b := by rw [hV', Nat.add_mul_mod_self_left]
    have hdiv : valN (2 ^ n) (ds.drop j) / b = y / b + V / b * 2 ^ n := by rw [hV', Nat.add_mul_div_left _ _ hb]
    have hql : y / b < 2 ^ n := by
      rw [Nat.div_lt_iff_lt_mul hb, Nat.mul_comm]; exact hyb
    obtain ⟨qs', dg', qg', G', a1, a2, a3, a4⟩ := ih (i + 1) f (qs ++ [y / b]) (some (.int (dd : Int))) (some (.int (y / b : Nat))) (G ++ [.tup [.int (y / b : Nat), .int (y % b : Nat)]]) (by omega) (by omega) (by simp [hqs])
      (by
        rw [List.reverse_append]
        show y / b + 2 ^ n * valN (2 ^ n) qs.reverse = _
        rw [hv, hdiv, Nat.mul_comm (2 ^ n)]) (fun z hz => by
        rcases List.mem_append.mp hz with hz | hz
        · exact hlt z hz
        · rw [List.mem_singleton.mp hz]; exact hql)
    rw [hmod] at a4
    refine ⟨qs', dg', qg', G', a1, a2, a3, for_next (inext_rev (xs := nts ds) (v := .int (dd : Int)) ?_ (nts_len _) (by omega) (nts_get (by rw [show ds.length - 1 - i = j by omega]; exact hdd)))
      (st1 := L ++ (dpS x b n L.length ds qs (V % b : Nat) (some (.int (dd : Int))) qg ++ G)) ?_ ?_ a4⟩
    · unfold dpS
      rw [getK]; rfl
    · unfold dpS
      simp -implicitDefEqProofs only [ev, ↓reduceIte, Nat.reduceAdd, reduceCtorEq]
    · have c1 : (0 ≤ (n : Int) ∧ (Builtin.Int.intBits ((V % b : Nat) : Int) : Int) + (n : Int) ≤ 2 ^ 27) = True := by
        have : Builtin.Int.intBits ((V % b : Nat) : Int) ≤ n := intBits_le (by omega)
        exact eq_true ⟨by omega, by omega⟩
      have c2 : (((V % b : Nat) : Int) * 2 ^ n + (dd : Int)) = (y : Int) := by rw [hy]; simp
      have hg : ∀ (a1 a2 : AO) (xs : List AV) R, (L ++ a1 :: a2 :: .list xs :: R)[L.length + 2]? = some (.list xs) := fun a1 a2 xs R => by rw [getK]; rfl
      unfold dpIn dpS
      refine seqT (st1 := L ++ (dpS x b n L.length ds qs (y % b : Nat) (some (.int (dd : Int))) (some (.int (y / b : Nat))) ++ (G ++ [.tup [.int (y / b : Nat), .int (y % b : Nat)]]))) ?_ ?_
      · unfold dpS
        have hl2 : ∀ (a1 a2 a3 : AO) (t : AO), (L ++ a1 :: a2 :: a3 :: (G ++ [t]))[L.length + (G.length + 3)]? = some t := fun a1 a2 a3 t => by
          rw [getK]
          show (G ++ [t])[G.length]? = _
          simp
        simp -implicitDefEqProofs only [ev, ↓reduceIte, Nat.reduceAdd, reduceCtorEq, c1, Int.toNat_natCast, c2, c_old, hq y _ hy128, tupAt, hl2]
      · unfold dpS
        refine seqT (st1 := L ++ (dpS x b n L.length ds (qs ++ [y / b]) (y % b : Nat) (some (.int (dd : Int))) (some (.int (y / b : Nat))) ++ (G ++ [.tup [.int (y / b : Nat), .int (y % b : Nat)]]))) ?_ rfl
        unfold dpS
        have e : nts (qs ++ [y / b]) = nts qs ++ [.int (y / b : Nat)] := by unfold nts; simp
        have hl3 : (nts qs).length ≤ 1000000 := by rw [nts_len]; omega
        simp -implicitDefEqProofs only [ev, ↓reduceIte, Nat.reduceAdd, reduceCtorEq, m_append (hg _ _ _ _), c_append (hg _ _ _ _) hl3, e]
end
section
variable {prog : Program} {w : World} {mg mb : Str → Option Value} {X : Heap → List TabD → Prop} (S : Sys prog w mg mb X)
theorem sumI2d_at {aI : Addr} {x n : Nat} {st : St} (h1 : 0 < n) (h2 : n ≤ 64) (h3 : dlen x n ≤ 128) : sumI2d aI (.old aI) [.int (x : Int), .int (n : Int)] [] st = some (.ref st.length, st ++ [.list (nts (digN (2 ^ n) (dlen x n) x))]) := by
  show (if aI = aI ∧ 0 ≤ (x : Int) ∧ 0 < (n : Int) ∧ (n : Int) ≤ 64 ∧ dlen (x : Int).toNat (n : Int).toNat ≤ 128 then some (AV.ref st.length, st ++ [.list (nts (digN (2 ^ (n : Int).toNat) (dlen (x : Int).toNat (n : Int).toNat) (x : Int).toNat))]) else none) = _
  simp only [Int.toNat_natCast]
  rw [if_pos ⟨trivial, by omega, by omega, by omega, h3⟩]
theorem sumDiv_at {aV : Addr} {x b : Nat} {n : Int} {st : St} (h1 : 0 < b) (h2 : b < 2 ^ 64) (h3 : 0 ≤ n) (h4 : Builtin.Int.intBits (x : Int) ≤ 4000) : sumDiv aV (.old aV) [.int (x : Int), .int (b : Int), .int n] [] st = some (.ref st.length, st ++ [.tup [.int (x / b : Nat), .int (x % b : Nat)]]) := by
  show (if aV = aV ∧ 0 ≤ (x : Int) ∧ 0 < (b : Int) ∧ (b : Int) < 2 ^ 64 ∧ 0 ≤ n ∧ Builtin.Int.intBits (x : Int) ≤ 4000 then some (AV.ref st.length, st ++ [.tup [.int ((x : Int).toNat / (b : Int).toNat : Nat), .int ((x : Int).toNat % (b : Int).toNat : Nat)]]) else none) = _
  simp only [Int.toNat_natCast]
  rw [if_pos ⟨trivial, by omega, by omega, by omega, h3, h4⟩]
theorem sumDp_at {aV : Addr} {x b : Nat} {st : St} (h1 : 0 < b) (h2 : b < 2 ^ 64) (h4 : x < 2 ^ 120) : sumDp aV (.old aV) [.int (x : Int), .int (b : Int)] [] st = some (.ref st.length, st ++ [.tup [.int (x / b : Nat), .int (x % b : Nat)]]) := by
  show (if aV = aV ∧ 0 ≤ (x : Int) ∧ 0 < (b : Int) ∧ (b : Int) < 2 ^ 64 ∧ (x : Int) < 2 ^ 120 then some (AV.ref st.length, st ++ [.tup [.int ((x : Int).toNat / (b : Int).toNat : Nat), .int ((x : Int).toNat % (b : Int).toNat : Nat)]]) else none) = _
  simp only [Int.toNat_natCast]
  rw [if_pos ⟨trivial, by omega, by omega, by omega, by omega⟩]
theorem sumD2i_at {aD : Addr} {n k : Nat} {ds : List Nat} {st : St} (h1 : st[k]? = some (.list (nts ds))) (h2 : n ≤ 64) (h3 : ds.length ≤ 128) (h4 : ∀ x ∈ ds, x < 2 ^ n) : sumD2i aD (.old aD) [.ref k, .int (n : Int)] [] st = some (.int (valN (2 ^ n) ds : Nat), st) := by
  show (listAt st k).bind (fun xs => (natsOf xs).bind fun ds => if aD = aD ∧ 0 ≤ (n : Int) ∧ (n : Int) ≤ 64 ∧ ds.length ≤ 128 ∧ ds.all (fun x => decide (x < 2 ^ (n : Int).toNat)) = true then some (AV.int (valN (2 ^ (n : Int).toNat) ds : Nat), st) else .none) = _
  unfold listAt
  rw [h1]
  simp only [Option.bind_some, natsOf_nts, Int.toNat_natCast]
  rw [if_pos ⟨trivial, by omega, by omega, h3, by rw [List.all_eq_true]; exact fun x hx => by simpa using h4 x hx⟩]
theorem lt_pow_bits {b : Nat} (h : 0 < b) : ∃ n : Nat, Builtin.Int.intBits (b : Int) = n ∧ b < 2 ^ n ∧ 0 < n ∧ ∀ k, b < 2 ^ k → n ≤ k := by
  refine ⟨b.log2 + 1, ?_, Nat.lt_log2_self, by omega, fun k hk => by have := (Nat.log2_lt (by omega)).mpr hk; omega⟩
  unfold Builtin.Int.intBits
  have : ((b : Int) == 0) = false := by simp; omega
  rw [this]
  simp
theorem dp_run {q : CallF} {r0 : MethF} {L : St} {code : Value} {aI aV aD : Addr} {x b : Nat} (hb : 0 < b) (hb64 : b < 2 ^ 64) (hx : x < 2 ^ 120)
    (hI : ∀ (x n : Nat) st, 0 < n → n ≤ 64 → dlen x n ≤ 128 → q (.old aI) [.int (x : Int), .int (n : Int)] [] st = some (.ref st.length, st ++ [.list (nts (digN (2 ^ n) (dlen x n) x))]))
    (hV : ∀ (x b n : Nat) st, 0 < b → b < 2 ^ 64 → x < 2 ^ 128 → q (.old aV) [.int (x : Int), .int (b : Int), .int (n : Int)] [] st = some (.ref st.length, st ++ [.tup [.int (x / b : Nat), .int (x % b : Nat)]]))
    (hD : ∀ (n k : Nat) (ds : List Nat) (st : St), st[k]? = some (.list (nts ds)) → n ≤ 64 → ds.length ≤ 128 → (∀ x ∈ ds, x < 2 ^ n) → q (.old aD) [.ref k, .int (n : Int)] [] st = some (.int (valN (2 ^ n) ds : Nat), st)) :
    ∃ j g, g[j]? = some (.tup [.int (x / b : Nat), .int (x % b : Nat)]) ∧ dpAct aI aV aD (cOr blts q) (mOr mStr r0) ⟨L.length, [], code⟩ (L ++ [.ns nmP [some (.int (x : Int)), some (.int (b : Int)), none, none, none, none, none, none, none]]) = some (.ret (.ref (L.length + j)), L ++ g) := by
  obtain ⟨n, hn, hbn, hn0, hmin⟩ := lt_pow_bits hb
  have hn64 : n ≤ 64 := hmin 64 hb64
  have hdl : dlen x n ≤ 128 := by
    unfold dlen
    have : Builtin.Int.intBits (x : Int) ≤ 120 := intBits_le hx
    have h2 : Builtin.Int.intBits (x : Int) + n - 1 ≤ 120 + n - 1 := by omega
    have h3 : (Builtin.Int.intBits (x : Int) + n - 1) / n ≤ (120 + n - 1) / n := Nat.div_le_div_right h2
    have h4 : (120 + n - 1) / n ≤ 120 := by
      have : 120 + n - 1 < 121 * n := by omega
      have := (Nat.div_lt_iff_lt_mul hn0).mpr this
      omega
    omega
  obtain ⟨ds, hds⟩ : ∃ ds, ds = digN (2 ^ n) (dlen x n) x := ⟨_, rfl⟩
  have hlen : ds.length = dlen x n := by rw [hds]; exact digN_len _ _ _
  have hval : valN (2 ^ n) ds = x := by
    rw [hds, valN_digN _ (pow_two_pos n), Nat.mod_eq_of_lt (lt_dlen hn0)]
  have hlt : ∀ y ∈ ds, y < 2 ^ n := by rw [hds]; exact digN_lt _ (pow_two_pos n) _ _
  obtain ⟨qs, dg, qg, G, a1, a2, a3, a4⟩ := dp_loop (q := q) (r0 := r0) (L := L) (code := code) (aV := aV) (x := x) (b := b) (n := n) (ds := ds) (fun y st hy => hV y b n st hb hb64 hy) hb hbn hn64 hlt (by omega) ds.length 0 (ds.length + 1) [] none none [] (by omega) (by omega) rfl (by rw [List.drop_length]; simp [valN]) (fun y hy => by cases hy)
  rw [List.drop_length] at a4
  rw [hval] at a1 a4
  simp only [valN, Nat.zero_mod, List.append_nil] at a4
  have hI' := fun st => hI x n st hn0 hn64 hdl
  rw [← hds] at hI'
  have hg1 : ∀ (a : AO) (xs : List AV) R, itemsAt (L ++ a :: .list xs :: R) (L.length + 1) = some xs := fun a xs R => by
    unfold itemsAt
    rw [getK]; rfl
  have hg2 : ∀ (a1 a2 : AO) (xs : List AV) R, (L ++ a1 :: a2 :: .list xs :: R)[L.length + 2]? = some (.list xs) := fun a1 a2 xs R => by rw [getK]; rfl
  have hql : qs.length ≤ 128 := by omega
  have hrv : (nts qs).reverse = nts qs.reverse := by unfold nts; simp
  have hD' := fun (u1 u2 : AO) R => hD n (L.length + 2) qs.reverse (L ++ u1 :: u2 :: .list (nts qs.reverse) :: R) (hg2 _ _ _ _) hn64 (by simpa using hql) (fun y hy => a2 y (by simpa using hy))
  rw [a1] at hD'
  refine ⟨3 + G.length, [.ns nmP [some (.int (x : Int)), some (.int (b : Int)), some (.int (n : Int)), some (.ref (L.length + 1)), some (.int (x % b : Nat)), some (.ref (L.length + 2)), dg, qg, some (.int (x / b : Nat))], .list (nts ds), .list (nts qs.reverse)] ++ G ++ [.tup [.int (x / b : Nat), .int (x % b : Nat)]], ?_, ?_⟩
  · rw [List.getElem?_append_right (by simp; omega)]
    simp only [List.length_append, List.length_cons, List.length_nil]
    rw [show 3 + G.length - (0 + 1 + 1 + 1 + G.length) = 0 by omega]
    rfl
  unfold dpAct
  have e2 : (2 : Nat) ≤ 1000 := by decide
  refine seqT (by simp -implicitDefEqProofs only [ev, ↓reduceIte, Nat.reduceAdd, reduceCtorEq, m_bits, c_bits, hn]; try rfl) ?_
  refine seqT (by simp -implicitDefEqProofs only [ev, ↓reduceIte, Nat.reduceAdd, reduceCtorEq, c_old, hI']; try rfl) ?_
  refine seqT (by simp -implicitDefEqProofs only [ev, ↓reduceIte, Nat.reduceAdd, reduceCtorEq]; try rfl) ?_
  refine seqT (by simp -implicitDefEqProofs only [ev, ↓reduceIte, Nat.reduceAdd, reduceCtorEq, Nat.zero_le]; try rfl) ?_
  refine seqT (st1 := L ++ (dpS x b n L.length ds qs (x % b : Nat) dg qg ++ G)) ?_ ?_
  · unfold xFor
    have : iCall (bVal (.typ "reversed")) (lCons (bLoc nmP 3) lNil) ⟨L.length, [], code⟩ (L ++ [.ns nmP [some (.int (x : Int)), some (.int (b : Int)), some (.int (n : Int)), some (.ref (L.length + 1)), some (.int 0), some (.ref (L.length + 2)), none, none, none], .list (nts ds), .list []]) =
        some (.rev (L.length + 1) ds.length, L ++ dpS x b n L.length ds [] ((0 : Nat) : Int) none none) := by
      unfold dpS
      simp -implicitDefEqProofs only [ev, ↓reduceIte, Nat.reduceAdd, reduceCtorEq, hg1, nts_len, Int.ofNat_zero, Int.cast_ofNat_Int]
      rfl
    rw [this, Option.bind_some]
    exact a4
  unfold dpS
  refine seqT (by simp -implicitDefEqProofs only [ev, ↓reduceIte, Nat.reduceAdd, reduceCtorEq, m_reverse (hg2 _ _ _ _), c_reverse (xs := nts qs) (hg2 _ _ _ _) (by rw [nts_len]; omega), hrv]; try rfl) ?_
  refine seqT (by simp -implicitDefEqProofs only [ev, ↓reduceIte, Nat.reduceAdd, reduceCtorEq, c_old, hD']; try rfl) ?_
  refine seqR ?_
  simp -implicitDefEqProofs only [ev, ↓reduceIte, Nat.reduceAdd, reduceCtorEq, e2]
  rw [show L.length + (G.length + 3) = L.length + (3 + G.length) by omega]
theorem dp_told {aI aV aD aP cI cD : Addr} {r0 : MethF} (d : Nat) (hm : S.m = mOr mStr r0) (hI : S.C d (sumI2d aI)) (hV : S.C d (sumDiv aV)) (hD : S.C d (sumD2i aD)) (h1 : aI ≠ aV) (h2 : aI ≠ aD) (h3 : aV ≠ aD)
    (hp : ∀ c (x y : AV) L, ∃ code, prep S.K (S.R c) 60 aP [x, y] [] L = some (L, [.ns nmP [some x, some y, none, none, none, none, none, none, none]], [], code, dpAct aI aV aD c S.m)) : S.CC (d + 1) (sumDp aP) := by
  refine S.told (sound_cor hI (sound_cor hV hD)) fun f args kw st r h hw => ?_
  unfold sumDp at h
  split at h
  · rename_i a x b
    split at h
    · rename_i hc
      cases h
      obtain ⟨rfl, h0, h4, h5, h6⟩ := hc
      obtain ⟨x, rfl⟩ := Int.eq_ofNat_of_zero_le h0
      obtain ⟨b, rfl⟩ := Int.eq_ofNat_of_zero_le (Int.le_of_lt h4)
      simp only [Int.toNat_natCast]
      obtain ⟨code, hp⟩ := hp (cOr blts (cOr (sumI2d aI) (cOr (sumDiv aV) (sumD2i aD)))) (.int (x : Int)) (.int (b : Int)) st
      obtain ⟨j, g, hg, hr⟩ := dp_run (q := cOr (sumI2d aI) (cOr (sumDiv aV) (sumD2i aD))) (r0 := r0) (L := st) (code := code) (aI := aI) (aV := aV) (aD := aD) (x := x) (b := b) (by omega) (by omega) (by omega)
        (fun x n st a1 a2 a3 => cor_l (sumI2d_at a1 a2 a3))
        (fun x b n st a1 a2 a3 => cor_r rfl (cor_l (sumDiv_at a1 a2 (Int.natCast_nonneg _) (by have := intBits_le a3; omega))))
        (fun n k ds st a1 a2 a3 a4 => cor_r rfl (cor_r rfl (sumD2i_at a1 a2 a3 a4)))
      refine ⟨.ret (.ref (st.length + j)), st ++ g, (run_prep hp).trans ?_, trim1 hw hg rfl⟩
      rw [hm]
      exact hr
    · cases h
  · cases h
theorem dm_told {aM aP : Addr} (d : Nat) (hP : S.C d (sumDp aP)) (hp : ∀ c (x y : AV) L, ∃ code, prep S.K (S.R c) 60 aM [x, y] [] L = some (L, [.ns nmM [some x, some y, none, none]], [], code, dmAct aM aP c)) : S.CC (d + 1) (sumDp aM) := by
  refine S.told hP fun f args kw st r h hw => ?_
  unfold sumDp at h
  split at h
  · rename_i a x b
    split at h
    · rename_i hc
      cases h
      obtain ⟨rfl, h0, h4, h5, h6⟩ := hc
      obtain ⟨x, rfl⟩ := Int.eq_ofNat_of_zero_le h0
      obtain ⟨b, rfl⟩ := Int.eq_ofNat_of_zero_le (Int.le_of_lt h4)
      simp only [Int.toNat_natCast]
      obtain ⟨code, hp⟩ := hp (cOr blts (sumDp aP)) (.int (x : Int)) (.int (b : Int)) st
      have c1 : decide ((b : Int) = 0) = false := by simp; omega
      have c2 : decide ((b : Int) < 0) = false := decide_eq_false (by omega)
      have c3 : decide ((x : Int) < 0) = false := decide_eq_false (by omega)
      refine ⟨.ret (.ref (st.length + 1)), st ++ [.ns nmM [some (.int (x : Int)), some (.int (b : Int)), none, none], .tup [.int (x / b : Nat), .int (x % b : Nat)]], (run_prep hp).trans ?_, trim1 hw rfl rfl⟩
      unfold dmAct
      refine seqR ?_
      simp -implicitDefEqProofs only [ev, ↓reduceIte, Nat.reduceAdd, reduceCtorEq, List.map_nil, c1, c2, c3, c_old, sumDp_at (by omega : 0 < b) (by omega : b < 2 ^ 64) (by omega : x < 2 ^ 120)]
    · cases h
  · cases h
end
def okCh (c : Nat) : Bool := (48 ≤ c && c ≤ 57) || (65 ≤ c && c ≤ 68) || (97 ≤ c && c ≤ 100)
def okS (s : Str) : Bool := s.cps.toList.all okCh
def codeN : Array Nat := #[14, 10, 4, 1, 1, 22, 0, 31, 16, 127, 0, 13, 7, 22, 0, 31, 16, 127, 0, 1]
def codeV : Array Nat := #[14, 14, 4, 1, 1, 9, 4294966783, 0, 0, 2147483648, 0, 0, 0, 0, 0, 13, 11, 9, 4294966783, 0, 0, 2147483648, 0, 0, 0, 0, 0, 1]
open PySem.Sre
theorem okCh_cases {c : Nat} (h : okCh c = true) : c ∈ [48, 49, 50, 51, 52, 53, 54, 55, 56, 57, 65, 66, 67, 68, 97, 98, 99, 100] := by
  simp only [okCh, Bool.or_eq_true, Bool.and_eq_true, decide_eq_true_eq] at h
  simp only [List.mem_cons, List.not_mem_nil, or_false]
  omega
theorem inSetN {c : Nat} (h : okCh c = true) (seen : Sre.Seen) : ∃ seen', inSet codeN c codeN.size 5 true seen = .ok (false, seen') := by
  have := okCh_cases h
  simp only [List.mem_cons, List.not_mem_nil, or_false] at this
  rcases this with rfl | rfl | rfl | rfl | rfl | rfl | rfl | rfl | rfl | rfl | rfl | rfl | rfl | rfl | rfl | rfl | rfl | rfl <;> exact ⟨_, rfl⟩
theorem inSetV {c : Nat} (h : okCh c = true) (seen : Sre.Seen) : ∃ seen', inSet codeV c codeV.size 5 true seen = .ok (false, seen') := by
  have := okCh_cases h
  simp only [List.mem_cons, List.not_mem_nil, or_false] at this
  rcases this with rfl | rfl | rfl | rfl | rfl | rfl | rfl | rfl | rfl | rfl | rfl | rfl | rfl | rfl | rfl | rfl | rfl | rfl <;> exact ⟨_, rfl⟩
theorem admitted_none {m : M} (hset : ∀ i, i < m.lim → ∀ seen, ∃ seen', inSet m.code (m.text.getD i 0) m.code.size 5 true seen = .ok (false, seen')) : ∀ (fuel s : Nat) (seen : Sre.Seen), ∃ seen', M.admitted m fuel s seen = .ok (none, seen')
  | 0, s, seen => ⟨_, rfl⟩
  | fuel + 1, s, seen => by
    unfold M.admitted
    by_cases h : s ≥ m.lim
    · rw [if_pos h]; exact ⟨_, rfl⟩
    · rw [if_neg h]
      obtain ⟨seen', e⟩ := hset s (by omega) seen
      rw [e]
      exact admitted_none hset fuel (s + 1) seen'
theorem okS_get {x : Str} (h : okS x = true) (i : Nat) (hi : i < x.cps.size) : okCh (x.cps.getD i 0) = true := by
  unfold okS at h
  rw [List.all_eq_true] at h
  apply h
  rw [Array.getD_eq_getD_getElem?, Array.getElem?_eq_getElem hi]
  simp
theorem say_fails {m : M} (h1 : m.outcome = none) (h2 : m.frames = []) : failsBy 1000 (m.say false) = true := by
  obtain ⟨⟩ := m
  simp only at h1 h2
  subst h1 h2
  rfl
theorem attempt_fails {m : M} (h1 : m.outcome = none) (h2 : m.frames = []) (hfs : m.hasFirstSet = true) (hset : ∀ i, i < m.lim → ∀ seen, ∃ seen', inSet m.code (m.text.getD i 0) m.code.size 5 true seen = .ok (false, seen')) (s : Nat) (first : Bool) : failsBy 1000 (m.attemptFrom s first) = true := by
  unfold M.attemptFrom
  obtain ⟨seen', e⟩ := admitted_none hset (m.lim + 1 - s) s m.seen
  rw [hfs, e]
  exact say_fails h1 h2
theorem forSearch_fails {code : Array Nat} {x : Str} (hi : (match ops[code.getD 0 0]? with | some .INFO => true | _ => false) = true) (hf : (code.getD 2 0 == 4) = true)
    (hset : ∀ i, i < x.cps.size → ∀ seen, ∃ seen', inSet code (x.cps.getD i 0) code.size 5 true seen = .ok (false, seen')) (n : Nat) (hn : x.cps.size ≤ n) :
    failsBy 1000 (forSearch code x.cps 0 (min (0 : Int).toNat x.cps.size) (min n x.cps.size) false) = true := by
  have e1 : min (0 : Int).toNat x.cps.size = 0 := by simp
  have e2 : min n x.cps.size = x.cps.size := by omega
  rw [e1, e2]
  unfold forSearch
  dsimp only
  split
  · exact say_fails rfl rfl
  · exact attempt_fails rfl rfl ((Bool.and_eq_true ..).mpr ⟨hi, hf⟩) hset 0 true
theorem searchN {x : Str} (h : okS x = true) (n : Nat) (hn : x.cps.size ≤ n) : failsBy 1000 (forSearch codeN x.cps 0 (min (0 : Int).toNat x.cps.size) (min n x.cps.size) false) = true :=
  forSearch_fails rfl rfl (fun i hi seen => inSetN (okS_get h i hi) seen) n hn
theorem searchV {x : Str} (h : okS x = true) (n : Nat) (hn : x.cps.size ≤ n) : failsBy 1000 (forSearch codeV x.cps 0 (min (0 : Int).toNat x.cps.size) (min n x.cps.size) false) = true :=
  forSearch_fails rfl rfl (fun i hi seen => inSetV (okS_get h i hi) seen) n hn
def PatOk (K : Frag) (a : Addr) (code : Array Nat) : Prop := ∃ items, patIn K a = some (0, items) ∧ items.map (·.toNat) = code
theorem cSearch_at {K : Frag} {a : Addr} {code : Array Nat} {x : Str} {st : St} (hp : PatOk K a code) (hs : ∀ n, x.cps.size ≤ n → failsBy 1000 (forSearch code x.cps 0 (min (0 : Int).toNat x.cps.size) (min n x.cps.size) false) = true) (hl : x.cps.size ≤ 1000) :
    cSearch K (.blt "re.Pattern.search") [.old a, .str x] [] st = some (.none, st) := by
  obtain ⟨items, h1, h2⟩ := hp
  show (patIn K a).bind (fun p => if failsBy 1000 (Sre.forSearch (p.2.map (·.toNat)) x.cps p.1 (min (0 : Int).toNat x.cps.size) (min ((2 ^ 63 - 1 : Int)).toNat x.cps.size) false) = true then some (AV.none, st) else .none) = _
  rw [h1]
  simp only [Option.bind_some, h2]
  rw [if_pos (hs _ (by omega))]
def nmC : List Str := ["self", "value", "name", "regex"]
def convAct (aN aV : Addr) (c : CallF) (m : MethF) : Act AFlow := (xSeq (xIf (tCmp .Is (bCall c (bVal (.typ "type")) (lCons (bLoc nmC 1) lNil) kNil) (bVal (.typ "str"))) (xSeq (xAsg (bIte (tVal (bLoc nmC 2)) (bVal (.old aN)) (bVal (.old aV))) [(gLoc nmC 3)])
  (xSeq (xIf (tVal (bMeth c m (bLoc nmC 3) ("search" : Str) (lCons (bLoc nmC 1) lNil) kNil)) (xSeq xFail
  xPass) xPass)
  (xSeq (xRet (bLoc nmC 1))
  xPass))) xPass)
  (xSeq xFail
  xPass))
theorem c_typeS {q : CallF} {st : St} {s : Str} : cOr blts q (.typ "type") [.str s] [] st = some (.typ "str", st) := rfl
theorem c_search {q : CallF} {st : St} {a : Addr} {s : Str} {r : Option (AV × St)} (h : q (.blt "re.Pattern.search") [.old a, .str s] [] st = r) : cOr blts q (.blt "re.Pattern.search") [.old a, .str s] [] st = r := h
def sumConv (aC : Addr) : CallF := fun f args kw st => match f, args, kw with
  | .old a, [.ref _, .str s], [(n, .bool _)] => if a = aC ∧ okS s = true ∧ s.length ≤ 1000 ∧ n = "name" then some (.str s, st) else .none
  | _, _, _ => .none
section
variable {prog : Program} {w : World} {mg mb : Str → Option Value} {X : Heap → List TabD → Prop} (S : Sys prog w mg mb X)
theorem conv_told {aC aN aV : Addr} {r0 : MethF} (d : Nat) (hm : ∀ st, S.m (.old aN) "search" st = some (.blt "re.Pattern.search", [.old aN]) ∧ S.m (.old aV) "search" st = some (.blt "re.Pattern.search", [.old aV])) (hN : PatOk S.K aN codeN) (hV : PatOk S.K aV codeV)
    (hp : ∀ c (x y z : AV) L, ∃ code, prep S.K (S.R c) 60 aC [x, y] [("name", z)] L = some (L, [.ns nmC [some x, some y, some z, none]], [], code, convAct aN aV c S.m)) : S.CC (d + 1) (sumConv aC) := by
  refine S.told (q := cSearch S.K) (sound_search S.hK) fun f args kw st r h hw => ?_
  unfold sumConv at h
  split at h
  · rename_i a k s n b
    split at h
    · rename_i hc
      cases h
      obtain ⟨rfl, h1, h2, rfl⟩ := hc
      obtain ⟨code, hp⟩ := hp (cOr blts (cSearch S.K)) (.ref k) (.str s) (.bool b) st
      have hl : s.cps.size ≤ 1000 := h2
      have c1 : ∀ st, cSearch S.K (.blt "re.Pattern.search") [.old aN, .str s] [] st = some (.none, st) := fun st => cSearch_at hN (fun n hn => searchN h1 n hn) hl
      have c2 : ∀ st, cSearch S.K (.blt "re.Pattern.search") [.old aV, .str s] [] st = some (.none, st) := fun st => cSearch_at hV (fun n hn => searchV h1 n hn) hl
      have t0 : ∀ st, atru .none st = some false := fun st => rfl
      have t1 : ∀ b st, atru (.bool b) st = some b := fun b st => rfl
      have d1 : ∀ st, acmp .Is (.typ "str") (.typ "str") st = some true := fun st => rfl
      refine ⟨.ret (.str s), st ++ [.ns nmC [some (.ref k), some (.str s), some (.bool b), some (.old (if b then aN else aV))]], (run_prep hp).trans ?_, trim0 hw rfl⟩
      unfold convAct
      refine seqR ?_
      cases b
      · simp -implicitDefEqProofs only [ev, ↓reduceIte, Nat.reduceAdd, reduceCtorEq, List.map_nil, c_typeS, d1, t0, t1, (hm _).2, c_search, c2]
      · simp -implicitDefEqProofs only [ev, ↓reduceIte, Nat.reduceAdd, reduceCtorEq, List.map_nil, c_typeS, d1, t0, t1, (hm _).1, c_search, c1]
    · cases h
  · cases h
end
section
variable {it : It} {t : TAct} {ts : List (Act Bool)} {emit : AEnv → St → Option St} {ae : AEnv} {n i : Nat} {st st1 st2 st3 : St} {x : AV} {r : Option St}
theorem comp_end (h1 : inext it i st = some none) : compLp it t ts emit ae (n + 1) i st = some st := by
  unfold compLp
  rw [h1]
  rfl
theorem comp_next (h1 : inext it i st = some (some x)) (h2 : t x ae st = some st1) (h3 : testsGo ts ae st1 = some (true, st2)) (h4 : emit ae st2 = some st3) (h5 : compLp it t ts emit ae n (i + 1) st3 = r) : compLp it t ts emit ae (n + 1) i st = r := by
  rw [compLp]
  rw [h1, Option.bind_some]
  dsimp only
  rw [h2, Option.bind_some, h3, Option.bind_some]
  simp only [if_true]
  rw [h4, Option.bind_some]
  exact h5
theorem comp_skip (h1 : inext it i st = some (some x)) (h2 : t x ae st = some st1) (h3 : testsGo ts ae st1 = some (false, st2)) (h5 : compLp it t ts emit ae n (i + 1) st2 = r) : compLp it t ts emit ae (n + 1) i st = r := by
  rw [compLp]
  rw [h1, Option.bind_some]
  dsimp only
  rw [h2, Option.bind_some, h3, Option.bind_some]
  exact h5
end
theorem run_of {src : Act It} {nm : List Str} {sel : List Nat} {t : TAct} {ts : List (Act Bool)} {emit : Nat → AEnv → St → Option St} {ae : AEnv} {st st2 : St} {it : It} {cs : List Nat} (h1 : src ae st = some (it, st)) (h2 : pick ae.cells sel = some cs)
    (h3 : compLp it t ts (emit st.length) ⟨st.length + 1, cs, ae.code⟩ (isize it st + 1) 0 (st ++ [.list [], .ns nm (nm.map fun _ => .none)]) = some st2) : compRun src nm sel t ts emit ae st = some (st.length, st2) := by
  unfold compRun
  rw [h1, Option.bind_some, h2, Option.bind_some, h3, Option.bind_some]
theorem bComp_of {run : Act Nat} {ae : AEnv} {st : St} {xs : List AV} {nm : List Str} {m : List (Option AV)} (h : run ae st = some (st.length, st ++ [.list xs, .ns nm m])) (hf : xs.all AV.flat = true) : bComp run ae st = some (.ref st.length, st ++ [.list xs]) := by
  unfold bComp
  rw [h, Option.bind_some, if_pos ⟨xs, nm, m, rfl, hf⟩]
  congr 2
  rw [List.take_append, List.take_of_length_le (by omega), Nat.add_sub_cancel_left]
  rfl
theorem inext_lst {st : St} {k i : Nat} {xs : List AV} (h : st[k]? = some (.list xs)) : inext (.lst k) i st = some xs[i]? := by
  unfold inext itemsAt
  dsimp only
  rw [h]
  rfl
theorem isize_lst {st : St} {k : Nat} {xs : List AV} (h : st[k]? = some (.list xs)) : isize (.lst k) st = xs.length := by
  unfold isize itemsAt
  dsimp only
  rw [h]
  rfl
theorem appendAt_at {L R : St} {k : Nat} {v : AV} {xs : List AV} (h : R[k]? = some (.list xs)) (h2 : xs.length ≤ 1000000) : appendAt (L.length + k) v (L ++ R) = some (L ++ R.set k (.list (xs ++ [v]))) := by
  unfold appendAt
  rw [getK, h]
  dsimp only
  rw [if_pos h2, setK]
theorem tests_nil {ae : AEnv} {st : St} : testsGo [] ae st = some (true, st) := rfl
structure HdrAt (C : Addr) (hn : List Str) (st : St) (k d l : Nat) (ts : List Nat) (items : List (Str × Str)) : Prop where
  i : st[k]? = some (.inst C d)
  d : st[d]? = some (.ns hn (some (.ref l) :: List.replicate (hn.length - 1) .none))
  l : st[l]? = some (.list (ts.map .ref))
  t : All2 (fun t (it : Str × Str) => st[t]? = some (.tup [.str it.1, .str it.2])) ts items
theorem app_get {α : Type} {st R : List α} {k : Nat} {a : α} (e : st[k]? = some a) : (st ++ R)[k]? = some a := by
  rw [List.getElem?_append_left (List.getElem?_eq_some_iff.mp e).1]; exact e
theorem HdrAt.app {C : Addr} {hn : List Str} {st : St} {k d l : Nat} {ts : List Nat} {items : List (Str × Str)} (h : HdrAt C hn st k d l ts items) (R : St) : HdrAt C hn (st ++ R) k d l ts items :=
  ⟨app_get h.i, app_get h.d, app_get h.l, h.t.mono fun _ _ e => app_get e⟩
theorem all2_fun {α β : Type} {R : α → β → Prop} (hf : ∀ a b b', R a b → R a b' → b = b') : ∀ {l : List α} {m m' : List β}, All2 R l m → All2 R l m' → m = m'
  | _, _, _, .nil, .nil => rfl
  | _, _, _, .cons x r, .cons y q => by rw [hf _ _ _ x y, all2_fun hf r q]
theorem refs_inj {a b : List Nat} (h : a.map AV.ref = b.map AV.ref) : a = b := by
  induction a generalizing b with
  | nil => cases b with
    | nil => rfl
    | cons y b => simp at h
  | cons x a ih => cases b with
    | nil => simp at h
    | cons y b =>
      simp only [List.map_cons, List.cons.injEq, AV.ref.injEq] at h
      rw [h.1, ih h.2]
theorem HdrAt.uniq {C : Addr} {hn : List Str} {st : St} {k d l d' l' : Nat} {ts ts' : List Nat} {items items' : List (Str × Str)} (h : HdrAt C hn st k d l ts items) (h' : HdrAt C hn st k d' l' ts' items') : d' = d ∧ l' = l ∧ ts' = ts ∧ items' = items := by
  have e1 := h.i
  rw [h'.i] at e1
  simp only [Option.some.injEq, AO.inst.injEq, true_and] at e1
  subst e1
  have e2 := h.d
  rw [h'.d] at e2
  simp only [Option.some.injEq, AO.ns.injEq, List.cons.injEq, AV.ref.injEq, and_true, true_and] at e2
  subst e2
  have e3 := h.l
  rw [h'.l] at e3
  simp only [Option.some.injEq, AO.list.injEq] at e3
  have e4 := refs_inj e3
  subst e4
  refine ⟨rfl, rfl, rfl, all2_fun (fun a b b' x y => ?_) h'.t h.t⟩
  rw [x] at y
  simp only [Option.some.injEq, AO.tup.injEq, List.cons.injEq, AV.str.injEq, and_true] at y
  exact Prod.ext y.1 y.2
structure HdrOk (C : Addr) (hn : List Str) (m : MethF) (ga : AV → Str → St → Option AV) : Prop where
  ga : ∀ (st : St) (k d l : Nat), st[k]? = some (.inst C d) → st[d]? = some (.ns hn (some (.ref l) :: List.replicate (hn.length - 1) .none)) → ga (.ref k) ("_headers" : Str) st = some (.ref l)
def HdrMeth (C : Addr) (hn : List Str) (m : MethF) (name : Str) (f : Addr) : Prop := ∀ (st : St) (k d l : Nat), st[k]? = some (.inst C d) → st[d]? = some (.ns hn (some (.ref l) :: List.replicate (hn.length - 1) .none)) → m (.ref k) name st = some (.old f, [.ref k])
theorem trimL {st g : St} {j : Nat} {xs : List AV} (hw : WF st) (hg : g[j]? = some (.list xs)) (hf : ∀ x ∈ xs, x.lt st.length) : Trim st (st ++ g) (.ref (st.length + j)) (.ref st.length, st ++ [.list xs]) := by
  have hj := (List.getElem?_eq_some_iff.mp hg).1
  refine ⟨[st.length + j], by simp, fun k h => ?_, by simp, by simp, fun k ao2 h => ?_, ?_⟩
  · rw [List.mem_singleton] at h
    subst h
    simp [hj]
  · by_cases hk : k < st.length
    · rw [List.getElem?_append_left hk] at h
      exact .inr ⟨hk, by rw [List.getElem?_append_left hk]; exact h, hw k ao2 h⟩
    · rw [List.getElem?_append_right (by omega)] at h
      have : k = st.length := by
        have := (List.getElem?_eq_some_iff.mp h).1
        simp at this; omega
      subst this
      simp only [Nat.sub_self, List.getElem?_cons_zero, Option.some.injEq] at h
      subst h
      left
      have e : AO.ren (fj st.length [st.length + j] (st ++ g).length) (.list xs) = .list xs := by
        refine congrArg AO.list ?_
        conv => rhs; rw [← List.map_id xs]
        refine List.map_congr_left fun x hx => ?_
        have h9 := hf x hx
        cases x <;> first | rfl | skip
        rename_i k
        have this : k < st.length := h9
        show AV.ref (fj _ _ _ k) = AV.ref k
        unfold fj
        rw [if_pos this]
      rw [e]
      unfold fj
      simp only [Nat.lt_irrefl, if_false, Nat.sub_self, List.getElem?_cons_zero, Option.getD_some]
      rw [List.getElem?_append_right (by omega), Nat.add_sub_cancel_left]; exact hg
  · unfold fj AV.ren
    simp
def nmSelf : List Str := ["self"]
def nmKV : List Str := [".0", "k", "v"]
def itemsAct (ga : AV → Str → St → Option AV) : Act AFlow := (xSeq (xRet (bSlice (bAttr ga (bLoc nmSelf 0) ("_headers" : Str)) (bVal .none) (bVal .none)))
  xPass)
noncomputable def kvAct (j : Nat) (ga : AV → Str → St → Option AV) : Act AFlow := (xSeq (xRet (bComp (compRun (iList (bAttr ga (bLoc nmSelf 0) ("_headers" : Str))) nmKV [] (gTup [(gLoc nmKV 1), (gLoc nmKV 2)]) [] (emitApp (bLoc nmKV j)))))
  xPass)
def RItems (C : Addr) (hn : List Str) (aF : Addr) : AV → List AV → List (Str × AV) → St → AV × St → Prop := fun f args kw st r =>
  ∃ (k d l : Nat) (ts : List Nat) (items : List (Str × Str)), f = .old aF ∧ args = [.ref k] ∧ kw = [] ∧ HdrAt C hn st k d l ts items ∧ ts.length ≤ 1000 ∧ r = (.ref st.length, st ++ [.list (ts.map .ref)])
def RKV (C : Addr) (hn : List Str) (aF : Addr) (pr : Str × Str → Str) : AV → List AV → List (Str × AV) → St → AV × St → Prop := fun f args kw st r =>
  ∃ (k d l : Nat) (ts : List Nat) (items : List (Str × Str)), f = .old aF ∧ args = [.ref k] ∧ kw = [] ∧ HdrAt C hn st k d l ts items ∧ ts.length ≤ 1000 ∧ r = (.ref st.length, st ++ [.list (items.map fun p => .str (pr p))])
theorem all2_get {α β : Type} {R : α → β → Prop} : ∀ {l : List α} {m : List β}, All2 R l m → ∀ {i : Nat} {b}, m[i]? = some b → ∃ a, l[i]? = some a ∧ R a b
  | _, _, .nil, i, b, h => by simp at h
  | _, _, .cons x r, 0, b, h => by simp at h; subst h; exact ⟨_, rfl, x⟩
  | _, _, .cons x r, i + 1, b, h => by simpa using all2_get r (by simpa using h)
section
variable {L : St} {code : Value} {C : Addr} {hn : List Str} {k d l : Nat} {ts : List Nat} {items : List (Str × Str)} {cs : List Nat}
theorem kv_loop {j : Nat} {pr : Str × Str → Str} (hj : ∀ (M : St) (p : Str × Str) (a : AO), bLoc nmKV j ⟨M.length + 1, cs, code⟩ (M ++ [a, .ns nmKV [.none, some (.str p.1), some (.str p.2)]]) = some (.str (pr p), M ++ [a, .ns nmKV [.none, some (.str p.1), some (.str p.2)]])) (h : HdrAt C hn L k d l ts items) (hl : ts.length ≤ 1000) :
    ∀ (rest : List (Str × Str)) (i fuel : Nat) (acc : List AV) (m : List (Option AV)), items.drop i = rest → rest.length < fuel → acc.length ≤ i → m.length = 3 → m[0]? = some .none → ∃ m',
      compLp (.lst l) (gTup [(gLoc nmKV 1), (gLoc nmKV 2)]) [] (emitApp (bLoc nmKV j) L.length) ⟨L.length + 1, cs, code⟩ fuel i (L ++ [.list acc, .ns nmKV m]) = some (L ++ [.list (acc ++ rest.map fun p => .str (pr p)), .ns nmKV m']) := by
  have hlen := h.t.length
  intro rest
  induction rest with
  | nil =>
    intro i fuel acc m hd hf ha hm hm0
    obtain ⟨f, rfl⟩ : ∃ f, fuel = f + 1 := ⟨fuel - 1, by omega⟩
    refine ⟨m, (comp_end ?_).trans (by simp)⟩
    rw [inext_lst (h.app _).l, List.getElem?_eq_none]
    have := List.drop_eq_nil_iff.mp hd
    simp; omega
  | cons p rest ih =>
    intro i fuel acc m hd hf ha hm hm0
    obtain ⟨f, rfl⟩ : ∃ f, fuel = f + 1 := ⟨fuel - 1, by omega⟩
    have hp : items[i]? = some p := by
      have := congrArg (·[0]?) hd
      simpa using this
    have hlt := (List.getElem?_eq_some_iff.mp hp).1
    obtain ⟨t, ht, htup⟩ := all2_get h.t hp
    have hd' : items.drop (i + 1) = rest := by
      have := congrArg (List.drop 1) hd
      simpa [List.drop_drop, Nat.add_comm] using this
    obtain ⟨a0, a1, a2, rfl⟩ : ∃ a0 a1 a2, m = [a0, a1, a2] := by
      match m, hm with
      | [a0, a1, a2], _ => exact ⟨a0, a1, a2, rfl⟩
    simp only [List.getElem?_cons_zero, Option.some.injEq] at hm0
    subst hm0
    obtain ⟨m', hm'⟩ := ih (i + 1) f (acc ++ [.str (pr p)]) [.none, some (.str p.1), some (.str p.2)] hd' (by simp at hf; omega) (by simp; omega) rfl rfl
    refine ⟨m', (comp_next (x := .ref t) (st1 := L ++ [.list acc, .ns nmKV [.none, some (.str p.1), some (.str p.2)]]) (st2 := L ++ [.list acc, .ns nmKV [.none, some (.str p.1), some (.str p.2)]]) (st3 := L ++ [.list (acc ++ [.str (pr p)]), .ns nmKV [.none, some (.str p.1), some (.str p.2)]]) ?_ ?_ tests_nil ?_ hm').trans (by simp)⟩
    · rw [inext_lst (h.app _).l, List.getElem?_map, ht]; rfl
    · have htt : ∀ R, tupAt (L ++ R) t = some [.str p.1, .str p.2] := fun R => by unfold tupAt; rw [app_get htup]
      simp -implicitDefEqProofs only [ev, ↓reduceIte, Nat.reduceAdd, reduceCtorEq, htt]
    · unfold emitApp
      rw [hj, Option.bind_some]
      exact appendAt_at (k := 0) rfl (by omega)
theorem kv_run {j : Nat} {pr : Str × Str → Str} {m0 : MethF} {ga : AV → Str → St → Option AV} (hj : ∀ cs (M : St) (p : Str × Str) (a : AO), bLoc nmKV j ⟨M.length + 1, cs, code⟩ (M ++ [a, .ns nmKV [.none, some (.str p.1), some (.str p.2)]]) = some (.str (pr p), M ++ [a, .ns nmKV [.none, some (.str p.1), some (.str p.2)]])) (hk : HdrOk C hn m0 ga) (h : HdrAt C hn L k d l ts items) (hl : ts.length ≤ 1000) :
    kvAct j ga ⟨L.length, [], code⟩ (L ++ [.ns nmSelf [some (.ref k)]]) = some (.ret (.ref (L.length + 1)), L ++ [.ns nmSelf [some (.ref k)], .list (items.map fun p => .str (pr p))]) := by
  have hx := h.app [.ns nmSelf [some (.ref k)]]
  have hga : ga (.ref k) ("_headers" : Str) (L ++ [.ns nmSelf [some (.ref k)]]) = some (.ref l) := hk.ga _ _ _ _ hx.i hx.d
  obtain ⟨m', hm'⟩ := kv_loop (cs := []) (code := code) (fun M p a => hj [] M p a) hx hl items 0 (items.length + 1) [] [.none, .none, .none] rfl (by omega) (by simp) rfl rfl
  have hsrc : iList (bAttr ga (bLoc nmSelf 0) ("_headers" : Str)) ⟨L.length, [], code⟩ (L ++ [.ns nmSelf [some (.ref k)]]) = some (.lst l, L ++ [.ns nmSelf [some (.ref k)]]) := by
    have : itemsAt (L ++ [.ns nmSelf [some (.ref k)]]) l = some (ts.map .ref) := by unfold itemsAt; rw [hx.l]
    simp -implicitDefEqProofs only [ev, ↓reduceIte, Nat.reduceAdd, reduceCtorEq, hga, this]
  have hlen := h.t.length
  have hb := bComp_of (xs := items.map fun p => .str (pr p)) (nm := nmKV) (m := m') (run_of (nm := nmKV) (t := gTup [(gLoc nmKV 1), (gLoc nmKV 2)]) (ts := []) (emit := emitApp (bLoc nmKV j)) (sel := []) (cs := []) hsrc rfl (by rw [isize_lst hx.l, List.length_map, hlen]; exact hm')) (by
    rw [List.all_eq_true]
    intro x hx
    obtain ⟨y, _, rfl⟩ := List.mem_map.mp hx
    rfl)
  unfold kvAct
  refine seqR ?_
  unfold xRet
  rw [hb, Option.bind_some]
  simp
theorem items_run {m0 : MethF} {ga : AV → Str → St → Option AV} (hk : HdrOk C hn m0 ga) (h : HdrAt C hn L k d l ts items) (hl : ts.length ≤ 1000) :
    itemsAct ga ⟨L.length, [], code⟩ (L ++ [.ns nmSelf [some (.ref k)]]) = some (.ret (.ref (L.length + 1)), L ++ [.ns nmSelf [some (.ref k)], .list (ts.map .ref)]) := by
  have hx := h.app [.ns nmSelf [some (.ref k)]]
  have hga : ga (.ref k) ("_headers" : Str) (L ++ [.ns nmSelf [some (.ref k)]]) = some (.ref l) := hk.ga _ _ _ _ hx.i hx.d
  have hs : aslice (.ref l) .none .none (L ++ [.ns nmSelf [some (.ref k)]]) = some (.ref (L.length + 1), L ++ [.ns nmSelf [some (.ref k)], .list (ts.map .ref)]) := by
    unfold aslice partOf
    simp only [Option.bind_some, hx.l]
    rw [if_pos (by simpa using hl)]
    simp
    exact List.take_of_length_le (by simp)
  unfold itemsAct
  refine seqR ?_
  simp -implicitDefEqProofs only [ev, ↓reduceIte, Nat.reduceAdd, reduceCtorEq, hga, hs]
end
section
variable {prog : Program} {w : World} {mg mb : Str → Option Value} {X : Heap → List TabD → Prop} (S : Sys prog w mg mb X) {C : Addr} {hn : List Str}
theorem items_told {aF : Addr} (d : Nat) (hk : HdrOk C hn S.m S.ga) (hp : ∀ c (x : AV) L, ∃ code, prep S.K (S.R c) 60 aF [x] [] L = some (L, [.ns nmSelf [some x]], [], code, itemsAct S.ga)) : S.CC (d + 1) (cRel (RItems C hn aF)) := by
  refine S.told (d := d) S.none_sound fun f args kw st r h hw => ?_
  obtain ⟨k, d', l, ts, items, rfl, rfl, rfl, h1, h2, rfl⟩ := cRel_some h
  obtain ⟨code, hp⟩ := hp (cOr blts fun _ _ _ _ => .none) (.ref k) st
  refine ⟨_, _, (run_prep hp).trans (items_run hk h1 h2), trimL hw rfl fun x hx => ?_⟩
  obtain ⟨t, ht, rfl⟩ := List.mem_map.mp hx
  obtain ⟨i, hi⟩ := List.mem_iff_getElem?.mp ht
  obtain ⟨b, _, hb⟩ := h1.t.get hi
  exact (List.getElem?_eq_some_iff.mp hb).1
theorem kv_told {aF : Addr} {j : Nat} {pr : Str × Str → Str} (d : Nat) (hj : ∀ code cs (M : St) (p : Str × Str) (a : AO), bLoc nmKV j ⟨M.length + 1, cs, code⟩ (M ++ [a, .ns nmKV [.none, some (.str p.1), some (.str p.2)]]) = some (.str (pr p), M ++ [a, .ns nmKV [.none, some (.str p.1), some (.str p.2)]]))
    (hk : HdrOk C hn S.m S.ga) (hp : ∀ c (x : AV) L, ∃ code, prep S.K (S.R c) 60 aF [x] [] L = some (L, [.ns nmSelf [some x]], [], code, kvAct j S.ga)) : S.CC (d + 1) (cRel (RKV C hn aF pr)) := by
  refine S.told (d := d) S.none_sound fun f args kw st r h hw => ?_
  obtain ⟨k, d', l, ts, items, rfl, rfl, rfl, h1, h2, rfl⟩ := cRel_some h
  obtain ⟨code, hp⟩ := hp (cOr blts fun _ _ _ _ => .none) (.ref k) st
  refine ⟨_, _, (run_prep hp).trans (kv_run (hj code) hk h1 h2), trim1 hw rfl ?_⟩
  show List.all _ _ = true
  rw [List.all_eq_true]
  intro x hx
  obtain ⟨y, _, rfl⟩ := List.mem_map.mp hx
  rfl
theorem RItems_at {aF : Addr} {st : St} {k d l : Nat} {ts : List Nat} {items : List (Str × Str)} (h : HdrAt C hn st k d l ts items) (hl : ts.length ≤ 1000) : cRel (RItems C hn aF) (.old aF) [.ref k] [] st = some (.ref st.length, st ++ [.list (ts.map .ref)]) :=
  cRel_of ⟨k, d, l, ts, items, rfl, rfl, rfl, h, hl, rfl⟩ fun r' ⟨k', d', l', ts', items', _, e, _, h', _, hr⟩ => by
    cases e
    obtain ⟨rfl, rfl, rfl, rfl⟩ := h.uniq h'
    exact hr
theorem RKV_at {aF : Addr} {pr : Str × Str → Str} {st : St} {k d l : Nat} {ts : List Nat} {items : List (Str × Str)} (h : HdrAt C hn st k d l ts items) (hl : ts.length ≤ 1000) : cRel (RKV C hn aF pr) (.old aF) [.ref k] [] st = some (.ref st.length, st ++ [.list (items.map fun p => .str (pr p))]) :=
  cRel_of ⟨k, d, l, ts, items, rfl, rfl, rfl, h, hl, rfl⟩ fun r' ⟨k', d', l', ts', items', _, e, _, h', _, hr⟩ => by
    cases e
    obtain ⟨rfl, rfl, rfl, rfl⟩ := h.uniq h'
    exact hr
end
theorem trimR {st g : St} {j : Nat} {ob : AO} (hw : WF st) (hg : g[j]? = some ob) (hf : ∀ f, ob.ren f = ob) : Trim st (st ++ g) (.ref (st.length + j)) (.ref st.length, st ++ [ob]) := by
  have hj := (List.getElem?_eq_some_iff.mp hg).1
  refine ⟨[st.length + j], by simp, fun k h => ?_, by simp, by simp, fun k ao2 h => ?_, ?_⟩
  · rw [List.mem_singleton] at h
    subst h
    simp [hj]
  · by_cases hk : k < st.length
    · rw [List.getElem?_append_left hk] at h
      exact .inr ⟨hk, by rw [List.getElem?_append_left hk]; exact h, hw k ao2 h⟩
    · rw [List.getElem?_append_right (by omega)] at h
      have : k = st.length := by
        have := (List.getElem?_eq_some_iff.mp h).1
        simp at this; omega
      subst this
      simp only [Nat.sub_self, List.getElem?_cons_zero, Option.some.injEq] at h
      subst h
      left
      unfold fj
      simp only [Nat.lt_irrefl, if_false, Nat.sub_self, List.getElem?_cons_zero, Option.getD_some, hf]
      rw [List.getElem?_append_right (by omega), Nat.add_sub_cancel_left]; exact hg
  · unfold fj AV.ren
    simp
def nmCP : List Str := ["w", "base", "more_than", "show", "seen", "need", "ws", "lo", "d", "it", "first", "this", "hi", "sq"]
def cpBody (c : CallF) (m : MethF) : Act AFlow := (xSeq (xAsg (bMeth c m (bLoc nmCP 6) ("pop" : Str) lNil kNil) [(gLoc nmCP 0)])
  (xSeq (xIf (tOr (tCmp .In (bLoc nmCP 0) (bLoc nmCP 4)) (tOr (tCmp .LtE (bLoc nmCP 0) (bLoc nmCP 2)) tFalse)) (xSeq xCont
  xPass) xPass)
  (xSeq (xExpr (bMeth c m (bLoc nmCP 4) ("add" : Str) (lCons (bLoc nmCP 0) lNil) kNil))
  (xSeq (xAsg (bBin .RShift (bLoc nmCP 0) (bVal (.int 1))) [(gLoc nmCP 7)])
  (xSeq (xExpr (bMeth c m (bLoc nmCP 5) ("add" : Str) (lCons (bLoc nmCP 7) lNil) kNil))
  (xSeq (xExpr (bMeth c m (bLoc nmCP 6) ("add" : Str) (lCons (bLoc nmCP 7) lNil) kNil))
  (xSeq (xIf (tVal (bBin .BitAnd (bLoc nmCP 0) (bVal (.int 1)))) (xSeq (xExpr (bMeth c m (bLoc nmCP 6) ("add" : Str) (lCons (bBin .Add (bLoc nmCP 7) (bVal (.int 1))) lNil) kNil))
  xPass) xPass)
  xPass)))))))
def cpAct (cA : Addr) (loops : Nat) (c : CallF) (m : MethF) : Act AFlow := (xSeq (xAsg (bCall c (bVal (.typ "set")) lNil kNil) [(gLoc nmCP 4)])
  (xSeq (xAsg (bCall c (bVal (.typ "set")) lNil kNil) [(gLoc nmCP 5)])
  (xSeq (xAsg (bSet1 cA (bLoc nmCP 0)) [(gLoc nmCP 6)])
  (xSeq (xWhile loops (tVal (bLoc nmCP 6)) (cpBody c m) xPass)
  (xSeq (xAsg bDict0 [(gLoc nmCP 8)])
  (xSeq (xIf (tNot (tVal (bLoc nmCP 5))) (xSeq (xRet (bLoc nmCP 8))
  xPass) xPass)
  (xSeq xFail
  (xSeq xFail
  (xSeq (xIf (tVal (bLoc nmCP 3)) (xSeq xFail
  xPass) xPass)
  (xSeq (xAsg (bBin .Pow (bLoc nmCP 1) (bLoc nmCP 10)) [(gItem (bLoc nmCP 8) (bLoc nmCP 10))])
  (xSeq (xFor (iList (bLoc nmCP 9)) (gLoc nmCP 11) (xSeq (xIf (tCmp .In (bBin .Sub (bLoc nmCP 11) (bVal (.int 1))) (bLoc nmCP 8)) (xSeq (xIf (tVal (bLoc nmCP 3)) (xSeq xFail
  xPass) xPass)
  (xSeq (xAsg (bBin .Mult (bItem (bLoc nmCP 8) (bBin .Sub (bLoc nmCP 11) (bVal (.int 1)))) (bLoc nmCP 1)) [(gItem (bLoc nmCP 8) (bLoc nmCP 11))])
  xPass)) (xSeq (xAsg (bBin .RShift (bLoc nmCP 11) (bVal (.int 1))) [(gLoc nmCP 7)])
  (xSeq (xAsg (bBin .Sub (bLoc nmCP 11) (bLoc nmCP 7)) [(gLoc nmCP 12)])
  (xSeq xFail
  (xSeq (xIf (tVal (bLoc nmCP 3)) (xSeq xFail
  xPass) xPass)
  (xSeq (xAsg (bBin .Mult (bItem (bLoc nmCP 8) (bLoc nmCP 7)) (bItem (bLoc nmCP 8) (bLoc nmCP 7))) [(gLoc nmCP 13)])
  (xSeq (xIf (tCmp .NotEq (bLoc nmCP 12) (bLoc nmCP 7)) (xSeq xFail
  (xSeq (xIf (tVal (bLoc nmCP 3)) (xSeq xFail
  xPass) xPass)
  (xSeq (xAug .Mult (bLoc nmCP 13) (bLoc nmCP 1) (gLoc nmCP 13))
  xPass))) xPass)
  (xSeq (xAsg (bLoc nmCP 13) [(gItem (bLoc nmCP 8) (bLoc nmCP 11))])
  xPass))))))))
  xPass) xPass)
  (xSeq (xRet (bLoc nmCP 8))
  xPass))))))))))))
theorem while_cont {t : Act Bool} {b o : Act AFlow} {ae : AEnv} {n : Nat} {st st1 st2 : St} {r : Option (AFlow × St)} (h1 : t ae st = some (true, st1)) (h2 : b ae st1 = some (.cont, st2)) (h3 : whileGo t b o ae n st2 = r) : whileGo t b o ae (n + 1) st = r := by
  rw [whileGo]
  rw [h1, Option.bind_some]
  simp only [if_true]
  rw [h2, Option.bind_some]
  exact h3
theorem seqC {a b : Act AFlow} {ae : AEnv} {st st1 : St} (h : a ae st = some (.cont, st1)) : xSeq a b ae st = some (.cont, st1) := by
  unfold xSeq
  rw [h]
  rfl
theorem c_set {q : CallF} {st : St} : cOr blts (cOr cSet q) (.typ "set") [] [] st = some (.ref st.length, st ++ [.eset]) := rfl
theorem c_pop {q : CallF} {st : St} {k : Nat} {i : Int} (h : st[k]? = some (.set1 i)) : cOr blts (cOr cSet q) (.blt "set.pop") [.ref k] [] st = some (.int i, st.set k .eset) := by
  have : cSet (.blt "set.pop") [.ref k] [] st = some (.int i, st.set k .eset) := by
    show (match st[k]? with | some (.set1 i) => some (AV.int i, st.set k .eset) | _ => .none) = _
    rw [h]
  exact cor_r rfl (cor_l this)
theorem m_pop {r1 : MethF} {st : St} {k : Nat} {i : Int} (h : st[k]? = some (.set1 i)) : mOr mStr (mOr mSet r1) (.ref k) ("pop" : Str) st = some (.blt "set.pop", [.ref k]) := by
  have h1 : mStr (.ref k) ("pop" : Str) st = none := by
    show (listAt st k).bind _ = none
    unfold listAt
    rw [h]; rfl
  have h2 : mSet (.ref k) ("pop" : Str) st = some (.blt "set.pop", [.ref k]) := by
    show (match st[k]? with | some (.set1 _) => if ("pop" : Str) = "pop" then some (AV.blt "set.pop", [AV.ref k]) else .none | some .edict => if ("pop" : Str) = "items" then some (AV.blt "dict.items", [AV.ref k]) else .none | _ => .none) = _
    rw [h]
    dsimp only
    rw [if_pos rfl]
  unfold mOr
  rw [h1]
  dsimp only
  rw [h2]
theorem atru_eset {st : St} {k : Nat} (h : st[k]? = some .eset) : atru (.ref k) st = some false := by
  unfold atru listAt setTru
  dsimp only
  rw [h]
theorem atru_set1 {st : St} {k : Nat} {i : Int} (h : st[k]? = some (.set1 i)) : atru (.ref k) st = some true := by
  unfold atru listAt setTru
  dsimp only
  rw [h]
def sumCp (aC : Addr) : CallF := fun f args kw st => match f, args, kw with
  | .old a, [.int w, .int _, .int m], [] => if a = aC ∧ w ≤ m then some (.ref st.length, st ++ [.edict]) else .none
  | _, _, _ => .none
theorem cp_run {q : CallF} {r1 : MethF} {L : St} {code : Value} {cA : Addr} {loops : Nat} {w m : Int} {base : AV} (hcode : isCode code cA = true) (hl : 2 < loops) (hwm : w ≤ m) : ∃ g, g[4]? = some .edict ∧
    cpAct cA loops (cOr blts (cOr cSet q)) (mOr mStr (mOr mSet r1)) ⟨L.length, [], code⟩ (L ++ [.ns nmCP [some (.int w), some base, some (.int m), some (.bool false), none, none, none, none, none, none, none, none, none, none]]) = some (.ret (.ref (L.length + 4)), L ++ g) := by
  obtain ⟨n, rfl⟩ : ∃ n, loops = n + 2 := ⟨loops - 2, by omega⟩
  have g0 : ∀ (a1 a2 a3 a4 : AO) R, (L ++ a1 :: a2 :: a3 :: a4 :: R)[L.length + 3]? = some a4 := fun a1 a2 a3 a4 R => by rw [getK]; rfl
  have g2 : ∀ (a1 a2 a3 : AO) R, (L ++ a1 :: a2 :: a3 :: R)[L.length + 2]? = some a3 := fun a1 a2 a3 R => by rw [getK]; rfl
  have g1 : ∀ (a1 a2 : AO) R, (L ++ a1 :: a2 :: R)[L.length + 1]? = some a2 := fun a1 a2 R => by rw [getK]; rfl
  have c1 : decide (w ≤ m) = true := by simpa using hwm
  have tt : ∀ b st, atru (.bool b) st = some b := fun b st => rfl
  refine ⟨[.ns nmCP [some (.int w), some base, some (.int m), some (.bool false), some (.ref (L.length + 1)), some (.ref (L.length + 2)), some (.ref (L.length + 3)), none, some (.ref (L.length + 4)), none, none, none, none, none], .eset, .eset, .eset, .edict], rfl, ?_⟩
  unfold cpAct
  refine seqT (by simp -implicitDefEqProofs only [ev, ↓reduceIte, Nat.reduceAdd, reduceCtorEq, c_set]; try rfl) ?_
  refine seqT (by simp -implicitDefEqProofs only [ev, ↓reduceIte, Nat.reduceAdd, reduceCtorEq, c_set]; try rfl) ?_
  refine seqT (by simp -implicitDefEqProofs only [ev, ↓reduceIte, Nat.reduceAdd, reduceCtorEq, bSet1, hcode]; try rfl) ?_
  refine seqT (st1 := L ++ [.ns nmCP [some (.int w), some base, some (.int m), some (.bool false), some (.ref (L.length + 1)), some (.ref (L.length + 2)), some (.ref (L.length + 3)), none, none, none, none, none, none, none], .eset, .eset, .eset]) ?_ ?_
  · unfold xWhile
    refine while_cont (st1 := L ++ [.ns nmCP [some (.int w), some base, some (.int m), some (.bool false), some (.ref (L.length + 1)), some (.ref (L.length + 2)), some (.ref (L.length + 3)), none, none, none, none, none, none, none], .eset, .eset, .set1 w]) (st2 := L ++ [.ns nmCP [some (.int w), some base, some (.int m), some (.bool false), some (.ref (L.length + 1)), some (.ref (L.length + 2)), some (.ref (L.length + 3)), none, none, none, none, none, none, none], .eset, .eset, .eset]) ?_ ?_ (while_end (st1 := L ++ [.ns nmCP [some (.int w), some base, some (.int m), some (.bool false), some (.ref (L.length + 1)), some (.ref (L.length + 2)), some (.ref (L.length + 3)), none, none, none, none, none, none, none], .eset, .eset, .eset]) ?_ rfl)
    · simp -implicitDefEqProofs only [ev, ↓reduceIte, Nat.reduceAdd, reduceCtorEq, atru_set1 (g0 _ _ _ _ _)]
    · unfold cpBody
      refine seqT (st1 := L ++ [.ns nmCP [some (.int w), some base, some (.int m), some (.bool false), some (.ref (L.length + 1)), some (.ref (L.length + 2)), some (.ref (L.length + 3)), none, none, none, none, none, none, none], .eset, .eset, .eset]) ?_ ?_
      · simp -implicitDefEqProofs only [ev, ↓reduceIte, Nat.reduceAdd, reduceCtorEq, m_pop (g0 _ _ _ _ _), c_pop (g0 _ _ _ _ _)]
      · refine seqC ?_
        simp -implicitDefEqProofs only [ev, ↓reduceIte, Nat.reduceAdd, reduceCtorEq, esetAt, c1, xCont]
    · simp -implicitDefEqProofs only [ev, ↓reduceIte, Nat.reduceAdd, reduceCtorEq, atru_eset (g0 _ _ _ _ _)]
  refine seqT (by simp -implicitDefEqProofs only [ev, ↓reduceIte, Nat.reduceAdd, reduceCtorEq, bDict0]; try rfl) ?_
  refine seqR ?_
  simp -implicitDefEqProofs only [ev, ↓reduceIte, Nat.reduceAdd, reduceCtorEq, atru_eset (g2 _ _ _ _)]
def nmSi : List Str := ["a", "b", "mid"]
def siIn (c : CallF) : Act AFlow := (xSeq (xIf (tCmp .LtE (bBin .Sub (bLoc nmSi 1) (bLoc nmSi 0)) (bCell 3)) (xSeq (xRet (bCall c (bVal (.typ "int")) (lCons (bSlice (bCell 1) (bLoc nmSi 0) (bLoc nmSi 1)) lNil) kNil))
  xPass) xPass)
  (xSeq (xAsg (bBin .RShift (bBin .Add (bBin .Add (bLoc nmSi 0) (bLoc nmSi 1)) (bVal (.int 1))) (bVal (.int 1))) [(gLoc nmSi 2)])
  (xSeq (xRet (bBin .Add (bCall c (bCell 2) (lCons (bLoc nmSi 2) (lCons (bLoc nmSi 1) lNil)) kNil) (bBin .LShift (bBin .Mult (bCall c (bCell 2) (lCons (bLoc nmSi 0) (lCons (bLoc nmSi 2) lNil)) kNil) (bItem (bCell 0) (bBin .Sub (bLoc nmSi 1) (bLoc nmSi 2)))) (bBin .Sub (bLoc nmSi 1) (bLoc nmSi 2)))))
  xPass)))
def siAct (aC : Addr) (ps : Arguments) (body : List Stmt) (scope : Scope) (cA P : Addr) (c : CallF) : Act AFlow := (xSeq (xAsg (bVal (.int 2048)) [(gCell 1)])
  (xSeq (xDef cA P ps body scope ("_str_to_int_inner.<locals>.inner" : Str) [1, 2, 0, 3] (gCell 2))
  (xSeq (xAsg (bCall c (bVal (.old aC)) (lCons (bCall c (bVal (.blt "len")) (lCons (bCell 0) lNil) kNil) (lCons (bVal (.int 5)) (lCons (bCell 1) lNil))) kNil) [(gCell 3)])
  (xSeq (xRet (bCall c (bCell 2) (lCons (bVal (.int 0)) (lCons (bCall c (bVal (.blt "len")) (lCons (bCell 0) lNil) kNil) lNil)) kNil))
  xPass))))
structure SiAt (ps : Arguments) (body : List Stmt) (scope : Scope) (P : Addr) (st : St) (kf k3 k0 k2 k1 : Nat) (s : Str) : Prop where
  f : st[kf]? = some (.fn ps body scope "_str_to_int_inner.<locals>.inner" [("w5pow", k3), ("s", k0), ("inner", k2), ("DIGLIM", k1)] P)
  s : st[k0]? = some (.cell (some (.str s)))
  l : st[k1]? = some (.cell (some (.int 2048)))
def RSi (ps : Arguments) (body : List Stmt) (scope : Scope) (P : Addr) : AV → List AV → List (Str × AV) → St → AV × St → Prop := fun f args kw st r =>
  ∃ (kf k3 k0 k2 k1 : Nat) (s : Str) (n : Int), f = .ref kf ∧ args = [.int 0, .int (s.length : Int)] ∧ kw = [] ∧ SiAt ps body scope P st kf k3 k0 k2 k1 s ∧ (s.length ≤ 640 ∧ PySem.intText? s = some n) ∧ r = (.int n, st)
theorem RSi_uniq {ps : Arguments} {body : List Stmt} {scope : Scope} {P : Addr} {f : AV} {args : List AV} {kw : List (Str × AV)} {st : St} {r r' : AV × St} (h : RSi ps body scope P f args kw st r) (h' : RSi ps body scope P f args kw st r') : r' = r := by
  obtain ⟨kf, k3, k0, k2, k1, s, n, a1, a2, a3, a4, a5, rfl⟩ := h
  obtain ⟨kf', k3', k0', k2', k1', s', n', b1, b2, b3, b4, b5, rfl⟩ := h'
  subst a1
  cases b1
  have e1 := a4.f
  rw [b4.f] at e1
  simp only [Option.some.injEq, AO.fn.injEq, List.cons.injEq, Prod.mk.injEq, true_and, and_true] at e1
  obtain ⟨rfl, rfl, rfl, rfl⟩ := e1
  have e2 := a4.s
  rw [b4.s] at e2
  simp only [Option.some.injEq, AO.cell.injEq, AV.str.injEq] at e2
  subst e2
  have := a5.2
  rw [b5.2] at this
  cases this
  rfl
theorem slice_whole (s : Str) : Txt.slice s (some 0) (some (s.length : Int)) = s := by
  have := slice_closes (x := s) (i := 0) (j := (s.length : Int)) ⟨by omega, by omega, by
    unfold Str.length; simp⟩
  rw [eq_of_beq this]
  unfold Str.length
  simp
  rw [List.take_of_length_le (by simp)]
theorem c_intS {q : CallF} {st : St} {s : Str} {n : Int} (h : s.length ≤ 640) (h2 : PySem.intText? s = some n) : cOr blts q (.typ "int") [.str s] [] st = some (.int n, st) := by
  have : cIntS (.typ "int") [.str s] [] st = some (.int n, st) := by
    show (if s.length ≤ 640 then (PySem.intText? s).map fun n => (AV.int n, st) else .none) = _
    rw [if_pos h, h2]; rfl
  exact cor_l (cor_r rfl (cor_r rfl (cor_l this)))
section
variable {prog : Program} {w : World} {mg mb : Str → Option Value} {X : Heap → List TabD → Prop} (S : Sys prog w mg mb X) {ps : Arguments} {body : List Stmt} {scope : Scope} {P : Addr}
theorem cp_told {aC cA : Addr} {r1 : MethF} (d : Nat) (hm : S.m = mOr mStr (mOr mSet r1)) (hl : 2 < S.loops) (hp : ∀ c (x y z : AV) L, ∃ code, isCode code cA = true ∧ prep S.K (S.R c) 60 aC [x, y, z] [] L = some (L, [.ns nmCP [some x, some y, some z, some (.bool false), none, none, none, none, none, none, none, none, none, none]], [], code, cpAct cA S.loops c S.m)) : S.CC (d + 1) (sumCp aC) := by
  refine S.told (q := cOr cSet fun _ _ _ _ => .none) (sound_cor sound_cset S.none_sound) fun f args kw st r h hw => ?_
  unfold sumCp at h
  split at h
  · rename_i a x b m
    split at h
    · rename_i hc
      cases h
      obtain ⟨rfl, hx⟩ := hc
      obtain ⟨code, hcode, hp⟩ := hp (cOr blts (cOr cSet fun _ _ _ _ => .none)) (.int x) (.int b) (.int m) st
      obtain ⟨g, hg, hr⟩ := cp_run (q := fun _ _ _ _ => .none) (r1 := r1) (L := st) (base := .int b) hcode hl hx
      refine ⟨.ret (.ref (st.length + 4)), st ++ g, (run_prep hp).trans ?_, trimR hw hg fun _ => rfl⟩
      rw [hm]
      exact hr
    · cases h
  · cases h
theorem si_inner_told (d : Nat) (hp : ∀ c (x y : AV), prepC (S.R c) 60 ps body scope "_str_to_int_inner.<locals>.inner" ["w5pow", "s", "inner", "DIGLIM"] [x, y] = some ([.ns nmSi [some x, some y, none]], siIn c)) : S.CC (d + 1) (cRel (RSi ps body scope P)) := by
  refine S.told S.none_sound fun f args kw st r h hw => ?_
  obtain ⟨kf, k3, k0, k2, k1, s, n, rfl, rfl, rfl, h1, ⟨h2, h3⟩, rfl⟩ := cRel_some h
  refine ⟨.ret (.int n), st ++ [.ns nmSi [some (.int 0), some (.int (s.length : Int)), none]], (run_prepC h1.f (hp _ _ _)).trans ?_, trim0 hw rfl⟩
  have hs : ∀ R : St, (st ++ R)[k0]? = some (.cell (some (.str s))) := fun R => app_get h1.s
  have hl : ∀ R : St, (st ++ R)[k1]? = some (.cell (some (.int 2048))) := fun R => app_get h1.l
  have c1 : decide ((s.length : Int) - 0 ≤ 2048) = true := by simp; omega
  have e1 : ∀ st, aslice (.str s) (.int 0) (.int (s.length : Int)) st = some (.str s, st) := fun st => by
    unfold aslice partOf
    simp only [Option.bind_some]
    rw [if_pos (by omega), slice_whole]
  unfold siIn
  refine seqR ?_
  simp -implicitDefEqProofs only [ev, ↓reduceIte, Nat.reduceAdd, reduceCtorEq, hl, c1, hs, e1, c_intS h2 h3]
def sumSi (aS : Addr) : CallF := fun f args kw st => match f, args, kw with
  | .old a, [.str s], [] => if a = aS ∧ s.length ≤ 640 then (PySem.intText? s).map fun n => (.int n, st) else .none
  | _, _, _ => .none
theorem pick4 {a b c d : Nat} : pick [a, b, c, d] [1, 2, 0, 3] = some [b, c, a, d] := rfl
theorem sumCp_at {aC : Addr} {st : St} {w m b : Int} (h : w ≤ m) : sumCp aC (.old aC) [.int w, .int b, .int m] [] st = some (.ref st.length, st ++ [.edict]) := if_pos ⟨rfl, h⟩
theorem si_told {aS aC cA : Addr} (d : Nat) (hC : S.C (d + 1) (sumCp aC)) (hfree : freeOf scope = (["DIGLIM", "inner", "s", "w5pow"] : List Str))
    (hpi : ∀ c (x y : AV), prepC (S.R c) 60 ps body scope "_str_to_int_inner.<locals>.inner" ["w5pow", "s", "inner", "DIGLIM"] [x, y] = some ([.ns nmSi [some x, some y, none]], siIn c))
    (hp : ∀ c (x : AV) L, ∃ code, isCode code cA = true ∧ prep S.K (S.R c) 60 aS [x] [] L = some (L, [.ns [] [], .cell (some x), .cell none, .cell none, .cell none], [1, 2, 3, 4], code, siAct aC ps body scope cA P c)) : S.CC (d + 2) (sumSi aS) := by
  refine S.told (q := cOr (sumCp aC) (cRel (RSi ps body scope P))) (sound_cor hC (si_inner_told S d hpi).c) fun f args kw st r h hw => ?_
  unfold sumSi at h
  split at h
  · rename_i a s
    split at h
    · rename_i hc
      obtain ⟨rfl, h2⟩ := hc
      obtain ⟨n, h3, rfl⟩ := Option.map_eq_some_iff.mp h
      obtain ⟨code, hcode, hp⟩ := hp (cOr blts (cOr (sumCp aC) (cRel (RSi ps body scope P)))) (.str s) st
      obtain ⟨G, hG⟩ : ∃ G : St, G = [.ns [] [], .cell (some (.str s)), .cell (some (.int 2048)), .cell (some (.ref (st.length + 5))), .cell (some (.ref (st.length + 6))), .fn ps body scope "_str_to_int_inner.<locals>.inner" [("w5pow", st.length + 4), ("s", st.length + 1), ("inner", st.length + 3), ("DIGLIM", st.length + 2)] P, .edict] := ⟨_, rfl⟩
      have hr : cRel (RSi ps body scope P) (.ref (st.length + 5)) [.int 0, .int (s.length : Int)] [] (st ++ G) = some (.int n, st ++ G) := by
        have hR : RSi ps body scope P (.ref (st.length + 5)) [.int 0, .int (s.length : Int)] [] (st ++ G) (.int n, st ++ G) :=
          ⟨_, _, _, _, _, s, n, rfl, rfl, rfl, ⟨by rw [hG, getK]; rfl, by rw [hG, getK]; rfl, by rw [hG, getK]; rfl⟩, ⟨h2, h3⟩, rfl⟩
        exact cRel_of hR fun r' h' => RSi_uniq hR h'
      have hr' : cOr (sumCp aC) (cRel (RSi ps body scope P)) (.ref (st.length + 5)) [.int 0, .int (s.length : Int)] [] (st ++ G) = some (.int n, st ++ G) := cor_r rfl hr
      subst hG
      have hl : s.length ≤ 1000000 := by omega
      have hcp : ∀ st, cOr (sumCp aC) (cRel (RSi ps body scope P)) (.old aC) [.int (s.length : Int), .int 5, .int 2048] [] st = some (.ref st.length, st ++ [.edict]) := fun st => cor_l (sumCp_at (by omega))
      refine ⟨.ret (.int n), st ++ [.ns [] [], .cell (some (.str s)), .cell (some (.int 2048)), .cell (some (.ref (st.length + 5))), .cell (some (.ref (st.length + 6))), .fn ps body scope "_str_to_int_inner.<locals>.inner" [("w5pow", st.length + 4), ("s", st.length + 1), ("inner", st.length + 3), ("DIGLIM", st.length + 2)] P, .edict], (run_prep hp).trans ?_, trim0 hw rfl⟩
      unfold siAct
      refine seqT (by simp -implicitDefEqProofs only [ev, ↓reduceIte, Nat.reduceAdd, reduceCtorEq]; try rfl) ?_
      refine seqT (st1 := st ++ [.ns [] [], .cell (some (.str s)), .cell (some (.int 2048)), .cell (some (.ref (st.length + 5))), .cell none, .fn ps body scope "_str_to_int_inner.<locals>.inner" [("w5pow", st.length + 4), ("s", st.length + 1), ("inner", st.length + 3), ("DIGLIM", st.length + 2)] P]) (by simp -implicitDefEqProofs only [ev, ↓reduceIte, Nat.reduceAdd, reduceCtorEq, xDef, hcode, pick4, hfree, List.zip_cons_cons, List.zip_nil_left, List.reverse_cons, List.reverse_nil]) ?_
      refine seqT (st1 := st ++ [.ns [] [], .cell (some (.str s)), .cell (some (.int 2048)), .cell (some (.ref (st.length + 5))), .cell (some (.ref (st.length + 6))), .fn ps body scope "_str_to_int_inner.<locals>.inner" [("w5pow", st.length + 4), ("s", st.length + 1), ("inner", st.length + 3), ("DIGLIM", st.length + 2)] P, .edict]) (by simp -implicitDefEqProofs only [ev, ↓reduceIte, Nat.reduceAdd, reduceCtorEq, c_len hl, c_old, hcp]) ?_
      refine seqR ?_
      simp -implicitDefEqProofs only [ev, ↓reduceIte, Nat.reduceAdd, reduceCtorEq, c_len hl, c_ref, hr']
    · cases h
  · cases h
def nmF : List Str := ["s"]
def ifsAct (aS : Addr) (c : CallF) (m : MethF) : Act AFlow := (xSeq (xAsg (bMeth c m (bMeth c m (bLoc nmF 0) ("rstrip" : Str) lNil kNil) ("replace" : Str) (lCons (bVal (.str ("_" : Str))) (lCons (bVal (.str ("" : Str))) lNil)) kNil) [(gLoc nmF 0)])
  (xSeq (xRet (bCall c (bVal (.old aS)) (lCons (bLoc nmF 0) lNil) kNil))
  xPass))
def numOk (s : Str) : Bool := decide (Txt.rstrip s = s) && (Builtin.Str.occurrences s ("_" : Str) 0 s.length (s.length + 1)).isEmpty && decide (s.length ≤ 640)
def sumIfs (aF : Addr) : CallF := fun f args kw st => match f, args, kw with
  | .old a, [.str s], [] => if a = aF ∧ numOk s = true then (PySem.intText? s).map fun n => (.int n, st) else .none
  | _, _, _ => .none
theorem m_rstrip {r : MethF} {s : Str} {st : St} : mOr mStr r (.str s) ("rstrip" : Str) st = some (.blt "str.rstrip", [.str s]) := rfl
theorem m_replace {r : MethF} {s : Str} {st : St} : mOr mStr r (.str s) ("replace" : Str) st = some (.blt "str.replace", [.str s]) := rfl
theorem c_rstrip {q : CallF} {st : St} {s : Str} (h : s.length ≤ 1000) : cOr blts q (.blt "str.rstrip") [.str s] [] st = some (.str (Txt.rstrip s), st) := cor_l (cor_r rfl (cor_r rfl (cor_r rfl (cor_r rfl (cor_r rfl (cor_r rfl (cor_r rfl (cor_r rfl (cor_l (if_pos h))))))))))
theorem c_replace {q : CallF} {st : St} {s y z : Str} (h : (Builtin.Str.occurrences s y 0 s.length (s.length + 1)).isEmpty = true) : cOr blts q (.blt "str.replace") [.str s, .str y, .str z] [] st = some (.str s, st) := cor_l (cor_r rfl (cor_r rfl (cor_r rfl (cor_r rfl (cor_r rfl (cor_r rfl (cor_r rfl (cor_r rfl (cor_l (if_pos h))))))))))
theorem ifs_told {aF aS : Addr} {r0 : MethF} (d : Nat) (hm : S.m = mOr mStr r0) (hS : S.C d (sumSi aS)) (hp : ∀ c (x : AV) L, ∃ code, prep S.K (S.R c) 60 aF [x] [] L = some (L, [.ns nmF [some x]], [], code, ifsAct aS c S.m)) : S.CC (d + 1) (sumIfs aF) := by
  refine S.told hS fun f args kw st r h hw => ?_
  unfold sumIfs at h
  split at h
  · rename_i a s
    split at h
    · rename_i hc
      obtain ⟨rfl, hn⟩ := hc
      obtain ⟨n, h3, rfl⟩ := Option.map_eq_some_iff.mp h
      simp only [numOk, Bool.and_eq_true, decide_eq_true_eq] at hn
      obtain ⟨⟨n1, n2⟩, n3⟩ := hn
      obtain ⟨code, hp⟩ := hp (cOr blts (sumSi aS)) (.str s) st
      have hcall : ∀ st, sumSi aS (.old aS) [.str s] [] st = some (.int n, st) := fun st => by
        show (if aS = aS ∧ s.length ≤ 640 then (PySem.intText? s).map fun n => (AV.int n, st) else .none) = _
        rw [if_pos ⟨rfl, n3⟩, h3]; rfl
      refine ⟨.ret (.int n), st ++ [.ns nmF [some (.str s)]], (run_prep hp).trans ?_, trim0 hw rfl⟩
      rw [hm]
      unfold ifsAct
      refine seqT (st1 := st ++ [.ns nmF [some (.str s)]]) (by simp -implicitDefEqProofs only [ev, ↓reduceIte, Nat.reduceAdd, reduceCtorEq, m_rstrip, m_replace, c_rstrip (by omega : s.length ≤ 1000), n1, c_replace n2]) ?_
      refine seqR ?_
      simp -implicitDefEqProofs only [ev, ↓reduceIte, Nat.reduceAdd, reduceCtorEq, c_old, hcall]
    · cases h
  · cases h
end
def nmG : List Str := [".0", "kv"]
noncomputable def gaAct (c : CallF) (m : MethF) (ga : AV → Str → St → Option AV) : Act AFlow := (xSeq (xAsg (bMeth c m (bLoc nmSelf 0) ("_convert_string_type" : Str) (lCons (bMeth c m (bCell 0) ("lower" : Str) lNil kNil) lNil) (kOne ("name" : Str) (bVal (.bool true)))) [(gCell 0)])
  (xSeq (xRet (bComp (compRun (iList (bAttr ga (bLoc nmSelf 0) ("_headers" : Str))) nmG [0] (gLoc nmG 1) [(tCmp .Eq (bMeth c m (bItem (bLoc nmG 1) (bVal (.int 0))) ("lower" : Str) lNil kNil) (bCell 0))] (emitApp (bItem (bLoc nmG 1) (bVal (.int 1)))))))
  xPass))
theorem m_lowerS {r : MethF} {s : Str} {st : St} : mOr mStr r (.str s) ("lower" : Str) st = some (.blt "str.lower", [.str s]) := rfl
theorem aitem_tup0 {st : St} {t : Nat} {a b : AV} (h : st[t]? = some (.tup [a, b])) : aitem (.ref t) (.int 0) st = some (a, st) := by
  unfold aitem seqAt
  dsimp only
  rw [h]
  rfl
theorem aitem_tup1 {st : St} {t : Nat} {a b : AV} (h : st[t]? = some (.tup [a, b])) : aitem (.ref t) (.int 1) st = some (b, st) := by
  unfold aitem seqAt
  dsimp only
  rw [h]
  rfl
def getAllF (items : List (Str × Str)) (ln : Str) : List Str := (items.filter fun p => decide (Txt.lower p.1 = ln)).map (·.2)
def strsV (l : List Str) : List AV := l.map AV.str
theorem strsV_flat (l : List Str) : (strsV l).all AV.flat = true := by
  unfold strsV
  rw [List.all_eq_true]
  intro x hx
  obtain ⟨y, _, rfl⟩ := List.mem_map.mp hx
  rfl
def RGA (C : Addr) (hn : List Str) (aF : Addr) : AV → List AV → List (Str × AV) → St → AV × St → Prop := fun f args kw st r =>
  ∃ (k d l : Nat) (ts : List Nat) (items : List (Str × Str)) (nm : Str), f = .old aF ∧ args = [.ref k, .str nm] ∧ kw = [] ∧ HdrAt C hn st k d l ts items ∧ (ts.length ≤ 1000 ∧ okS (Txt.lower nm) = true ∧ nm.length ≤ 1000 ∧ (Txt.lower nm).length ≤ 1000 ∧ ∀ p ∈ items, p.1.length ≤ 1000) ∧
    r = (.ref st.length, st ++ [.list (strsV (getAllF items (Txt.lower nm)))])
section
variable {L : St} {code : Value} {C : Addr} {hn : List Str} {k d l : Nat} {ts : List Nat} {items : List (Str × Str)} {q : CallF} {r0 : MethF}
theorem ga_loop {kc : Nat} {ln : Str} (h : HdrAt C hn L k d l ts items) (hc : L[kc]? = some (.cell (some (.str ln)))) (hl : ts.length ≤ 1000) (hi : ∀ p ∈ items, p.1.length ≤ 1000) :
    ∀ (rest : List (Str × Str)) (i fuel : Nat) (acc : List AV) (a : Option AV), items.drop i = rest → rest.length < fuel → acc.length ≤ i → ∃ a',
      compLp (.lst l) (gLoc nmG 1) [(tCmp .Eq (bMeth (cOr blts q) (mOr mStr r0) (bItem (bLoc nmG 1) (bVal (.int 0))) ("lower" : Str) lNil kNil) (bCell 0))] (emitApp (bItem (bLoc nmG 1) (bVal (.int 1))) L.length) ⟨L.length + 1, [kc], code⟩ fuel i (L ++ [.list acc, .ns nmG [.none, a]]) =
        some (L ++ [.list (acc ++ strsV (getAllF rest ln)), .ns nmG [.none, a']]) := by
  have hlen := h.t.length
  intro rest
  induction rest with
  | nil =>
    intro i fuel acc a hd hf ha
    obtain ⟨f, rfl⟩ : ∃ f, fuel = f + 1 := ⟨fuel - 1, by omega⟩
    refine ⟨a, (comp_end ?_).trans (by simp [getAllF, strsV])⟩
    rw [inext_lst (h.app _).l, List.getElem?_eq_none]
    have := List.drop_eq_nil_iff.mp hd
    simp; omega
  | cons p rest ih =>
    intro i fuel acc a hd hf ha
    obtain ⟨f, rfl⟩ : ∃ f, fuel = f + 1 := ⟨fuel - 1, by omega⟩
    have hp : items[i]? = some p := by
      have := congrArg (·[0]?) hd
      simpa using this
    have hlt := (List.getElem?_eq_some_iff.mp hp).1
    obtain ⟨t, ht, htup⟩ := all2_get h.t hp
    have hd' : items.drop (i + 1) = rest := by
      have := congrArg (List.drop 1) hd
      simpa [List.drop_drop, Nat.add_comm] using this
    have hpl := hi p (List.mem_of_getElem? hp)
    have h0 : ∀ R, aitem (.ref t) (.int 0) (L ++ R) = some (.str p.1, L ++ R) := fun R => aitem_tup0 (app_get htup)
    have h1 : ∀ R, aitem (.ref t) (.int 1) (L ++ R) = some (.str p.2, L ++ R) := fun R => aitem_tup1 (app_get htup)
    have hcc : ∀ R : St, (L ++ R)[kc]? = some (.cell (some (.str ln))) := fun R => app_get hc
    have hin : inext (.lst l) i (L ++ [.list acc, .ns nmG [.none, a]]) = some (some (.ref t)) := by rw [inext_lst (h.app _).l, List.getElem?_map, ht]; rfl
    have hset : gLoc nmG 1 (.ref t) ⟨L.length + 1, [kc], code⟩ (L ++ [.list acc, .ns nmG [.none, a]]) = some (L ++ [.list acc, .ns nmG [.none, some (.ref t)]]) := by simp -implicitDefEqProofs only [ev, ↓reduceIte, Nat.reduceAdd, reduceCtorEq]
    by_cases hm : Txt.lower p.1 = ln
    · obtain ⟨a', ha'⟩ := ih (i + 1) f (acc ++ [.str p.2]) (some (.ref t)) hd' (by simp at hf; omega) (by simp; omega)
      refine ⟨a', (comp_next hin hset (st2 := L ++ [.list acc, .ns nmG [.none, some (.ref t)]]) (st3 := L ++ [.list (acc ++ [.str p.2]), .ns nmG [.none, some (.ref t)]]) ?_ ?_ ha').trans (by simp [getAllF, strsV, hm])⟩
      · have dm : decide (Txt.lower p.1 = ln) = true := by simpa using hm
        simp -implicitDefEqProofs only [ev, ↓reduceIte, Nat.reduceAdd, reduceCtorEq, testsGo, h0, m_lowerS, c_lower hpl, hcc, dm]
      · have : bItem (bLoc nmG 1) (bVal (.int 1)) ⟨L.length + 1, [kc], code⟩ (L ++ [.list acc, .ns nmG [.none, some (.ref t)]]) = some (.str p.2, L ++ [.list acc, .ns nmG [.none, some (.ref t)]]) := by simp -implicitDefEqProofs only [ev, ↓reduceIte, Nat.reduceAdd, reduceCtorEq, h1]
        unfold emitApp
        rw [this, Option.bind_some]
        exact appendAt_at (k := 0) rfl (by omega)
    · obtain ⟨a', ha'⟩ := ih (i + 1) f acc (some (.ref t)) hd' (by simp at hf; omega) (by omega)
      refine ⟨a', (comp_skip hin hset (st2 := L ++ [.list acc, .ns nmG [.none, some (.ref t)]]) ?_ ha').trans (by simp [getAllF, strsV, hm])⟩
      have dm : decide (Txt.lower p.1 = ln) = false := by simpa using hm
      simp -implicitDefEqProofs only [ev, ↓reduceIte, Nat.reduceAdd, reduceCtorEq, testsGo, h0, m_lowerS, c_lower hpl, hcc, dm]
theorem ga_run {aC : Addr} {ga : AV → Str → St → Option AV} {nm : Str} (hk : HdrOk C hn (mOr mStr r0) ga) (hm : HdrMeth C hn (mOr mStr r0) "_convert_string_type" aC) (hq : ∀ (k : Nat) (s : Str) st, okS s = true → s.length ≤ 1000 → q (.old aC) [.ref k, .str s] [("name", .bool true)] st = some (.str s, st))
    (h : HdrAt C hn L k d l ts items) (hl : ts.length ≤ 1000) (h1 : okS (Txt.lower nm) = true) (h2 : nm.length ≤ 1000) (h3 : (Txt.lower nm).length ≤ 1000) (hi : ∀ p ∈ items, p.1.length ≤ 1000) :
    gaAct (cOr blts q) (mOr mStr r0) ga ⟨L.length, [L.length + 1], code⟩ (L ++ [.ns nmSelf [some (.ref k)], .cell (some (.str nm))]) = some (.ret (.ref (L.length + 2)), L ++ [.ns nmSelf [some (.ref k)], .cell (some (.str (Txt.lower nm))), .list (strsV (getAllF items (Txt.lower nm)))]) := by
  unfold gaAct
  have hmc : ∀ R, mOr mStr r0 (.ref k) ("_convert_string_type" : Str) (L ++ R) = some (.old aC, [.ref k]) := fun R => hm _ _ _ _ (h.app R).i (h.app R).d
  refine seqT (st1 := L ++ [.ns nmSelf [some (.ref k)], .cell (some (.str (Txt.lower nm)))]) ?_ ?_
  · simp -implicitDefEqProofs only [ev, ↓reduceIte, Nat.reduceAdd, reduceCtorEq, hmc, m_lowerS, c_lower h2, c_old, hq _ _ _ h1 h3]
  · obtain ⟨L', hL'⟩ : ∃ L', L' = L ++ [.ns nmSelf [some (.ref k)], .cell (some (.str (Txt.lower nm)))] := ⟨_, rfl⟩
    have hx := h.app [.ns nmSelf [some (.ref k)], .cell (some (.str (Txt.lower nm)))]
    have hll : L'.length = L.length + 2 := by rw [hL']; simp
    have hcell : L'[L.length + 1]? = some (.cell (some (.str (Txt.lower nm)))) := by rw [hL', getK]; rfl
    have hga : ga (.ref k) ("_headers" : Str) (L ++ [.ns nmSelf [some (.ref k)], .cell (some (.str (Txt.lower nm)))]) = some (.ref l) := hk.ga _ _ _ _ hx.i hx.d
    have hsrc : iList (bAttr ga (bLoc nmSelf 0) ("_headers" : Str)) ⟨L.length, [L.length + 1], code⟩ L' = some (.lst l, L') := by
      have : itemsAt (L ++ [.ns nmSelf [some (.ref k)], .cell (some (.str (Txt.lower nm)))]) l = some (ts.map .ref) := by unfold itemsAt; rw [hx.l]
      rw [hL']
      simp -implicitDefEqProofs only [ev, ↓reduceIte, Nat.reduceAdd, reduceCtorEq, hga, this]
    rw [← hL'] at hx
    have hlen := h.t.length
    obtain ⟨a', ha'⟩ := ga_loop (q := q) (r0 := r0) (code := code) hx hcell hl hi items 0 (items.length + 1) [] .none rfl (by omega) (by simp)
    have hb := bComp_of (xs := strsV (getAllF items (Txt.lower nm))) (nm := nmG) (m := [.none, a']) (run_of (nm := nmG) (t := gLoc nmG 1) (ts := [(tCmp .Eq (bMeth (cOr blts q) (mOr mStr r0) (bItem (bLoc nmG 1) (bVal (.int 0))) ("lower" : Str) lNil kNil) (bCell 0))]) (emit := emitApp (bItem (bLoc nmG 1) (bVal (.int 1)))) (sel := [0]) (cs := [L.length + 1]) hsrc rfl (by rw [isize_lst hx.l, List.length_map, hlen]; exact ha')) (strsV_flat _)
    rw [← hL']
    refine seqR ?_
    unfold xRet
    rw [hb, Option.bind_some, hll, hL']
    simp
end
section
variable {prog : Program} {w : World} {mg mb : Str → Option Value} {X : Heap → List TabD → Prop} (S : Sys prog w mg mb X) {C : Addr} {hn : List Str}
theorem sumConv_at {aC : Addr} (k : Nat) (s : Str) (st : St) {b : Bool} (h1 : okS s = true) (h2 : s.length ≤ 1000) : sumConv aC (.old aC) [.ref k, .str s] [("name", .bool b)] st = some (.str s, st) := if_pos ⟨rfl, h1, h2, rfl⟩
theorem ga_told {aF aC : Addr} {r0 : MethF} (d : Nat) (hm0 : S.m = mOr mStr r0) (hk : HdrOk C hn S.m S.ga) (hm : HdrMeth C hn S.m "_convert_string_type" aC) (hC : S.C d (sumConv aC))
    (hp : ∀ c (x y : AV) L, ∃ code, prep S.K (S.R c) 60 aF [x, y] [] L = some (L, [.ns nmSelf [some x], .cell (some y)], [1], code, gaAct c S.m S.ga)) : S.CC (d + 1) (cRel (RGA C hn aF)) := by
  refine S.told hC fun f args kw st r h hw => ?_
  obtain ⟨k, d', l, ts, items, nm, rfl, rfl, rfl, h1, ⟨h2, h3, h4, h5, h6⟩, rfl⟩ := cRel_some h
  obtain ⟨code, hp⟩ := hp (cOr blts (sumConv aC)) (.ref k) (.str nm) st
  rw [hm0] at hk hm hp
  exact ⟨_, _, (run_prep hp).trans (ga_run hk hm (fun k s st a b => sumConv_at k s st a b) h1 h2 h3 h4 h5 h6), trim1 hw rfl (strsV_flat _)⟩
theorem RGA_at {aF : Addr} {st : St} {k d l : Nat} {ts : List Nat} {items : List (Str × Str)} {nm : Str} (h : HdrAt C hn st k d l ts items) (h2 : ts.length ≤ 1000) (h3 : okS (Txt.lower nm) = true) (h4 : nm.length ≤ 1000) (h5 : (Txt.lower nm).length ≤ 1000) (h6 : ∀ p ∈ items, p.1.length ≤ 1000) :
    cRel (RGA C hn aF) (.old aF) [.ref k, .str nm] [] st = some (.ref st.length, st ++ [.list (strsV (getAllF items (Txt.lower nm)))]) :=
  cRel_of ⟨k, d, l, ts, items, nm, rfl, rfl, rfl, h, ⟨h2, h3, h4, h5, h6⟩, rfl⟩ fun r' ⟨k', d', l', ts', items', nm', _, e, _, h', _, hr⟩ => by
    cases e
    obtain ⟨rfl, rfl, rfl, rfl⟩ := h.uniq h'
    exact hr
end
theorem trimApp {st g : St} {l j : Nat} {ts : List Nat} {a b : Str} (hw : WF st) (hl : st[l]? = some (.list (ts.map .ref))) (hg : g[j]? = some (.tup [.str a, .str b])) :
    Trim st (st.set l (.list (ts.map .ref ++ [.ref (st.length + j)])) ++ g) .none (.none, st.set l (.list (ts.map .ref ++ [.ref st.length])) ++ [.tup [.str a, .str b]]) := by
  have hj := (List.getElem?_eq_some_iff.mp hg).1
  have hll := (List.getElem?_eq_some_iff.mp hl).1
  have hts : ∀ t ∈ ts, t < st.length := fun t ht => by
    have := hw l _ hl
    exact this (.ref t) (List.mem_map.mpr ⟨t, ht, rfl⟩)
  refine ⟨[st.length + j], by simp, fun k h => ?_, by simp, by simp, fun k ao2 h => ?_, rfl⟩
  · rw [List.mem_singleton] at h
    subst h
    simp [hj]
  · by_cases hk : k < st.length
    · rw [List.getElem?_append_left (by simpa using hk)] at h
      by_cases e : l = k
      · subst e
        rw [List.getElem?_set_self hk] at h
        cases h
        left
        have e1 : AO.ren (fj st.length [st.length + j] (st.set l (.list (ts.map .ref ++ [.ref (st.length + j)])) ++ g).length) (.list (ts.map .ref ++ [.ref st.length])) = .list (ts.map .ref ++ [.ref (st.length + j)]) := by
          refine congrArg AO.list ?_
          rw [List.map_append, List.map_map]
          congr 1
          · refine List.map_congr_left fun t ht => ?_
            show AV.ref (fj _ _ _ t) = AV.ref t
            unfold fj
            rw [if_pos (hts t ht)]
          · show [AV.ref (fj _ _ _ _)] = _
            unfold fj
            simp
        rw [e1]
        unfold fj
        rw [if_pos hk, List.getElem?_append_left (by simpa using hk), List.getElem?_set_self hk]
      · rw [List.getElem?_set_ne e] at h
        exact .inr ⟨hk, by rw [List.getElem?_append_left (by simpa using hk), List.getElem?_set_ne e]; exact h, hw k ao2 h⟩
    · rw [List.getElem?_append_right (by simp; omega)] at h
      have : k = st.length := by
        have := (List.getElem?_eq_some_iff.mp h).1
        simp at this; omega
      subst this
      simp only [List.length_set, Nat.sub_self, List.getElem?_cons_zero, Option.some.injEq] at h
      subst h
      left
      unfold fj
      simp only [Nat.lt_irrefl, if_false, Nat.sub_self, List.getElem?_cons_zero, Option.getD_some]
      rw [List.getElem?_append_right (by simp), List.length_set, Nat.add_sub_cancel_left]
      exact hg
theorem HdrAt.grow {C : Addr} {hn : List Str} {st : St} {k d l : Nat} {ts : List Nat} {items : List (Str × Str)} (h : HdrAt C hn st k d l ts items) (a b : Str) :
    HdrAt C hn (st.set l (.list (ts.map .ref ++ [.ref st.length])) ++ [.tup [.str a, .str b]]) k d l (ts ++ [st.length]) (items ++ [(a, b)]) := by
  have hll := (List.getElem?_eq_some_iff.mp h.l).1
  have ne : ∀ {j : Nat} {ao : AO}, st[j]? = some ao → (∀ xs, ao ≠ .list xs) → (st.set l (.list (ts.map .ref ++ [.ref st.length])) ++ [.tup [.str a, .str b]])[j]? = some ao := fun {j ao} e hn => by
    have hj := (List.getElem?_eq_some_iff.mp e).1
    rw [List.getElem?_append_left (by simpa using hj), List.getElem?_set_ne]
    · exact e
    · rintro rfl
      rw [h.l] at e
      cases e
      exact hn _ rfl
  refine ⟨ne h.i (fun _ e => by cases e), ne h.d (fun _ e => by cases e), ?_, ?_⟩
  · rw [List.getElem?_append_left (by simpa using hll), List.getElem?_set_self hll]
    simp
  · refine All2.append (h.t.mono fun t it e => ne e (fun _ e => by cases e)) (.cons ?_ .nil)
    rw [List.getElem?_append_right (by simp)]
    simp
def nmAH : List Str := ["self", "_name", "_value", "_params", "parts", "k", "v"]
def ahAct (c : CallF) (m : MethF) (ga : AV → Str → St → Option AV) : Act AFlow := (xSeq (xAsg (bList lNil) [(gLoc nmAH 4)])
  (xSeq (xIf (tCmp .IsNot (bLoc nmAH 2) (bVal .none)) (xSeq (xAsg (bMeth c m (bLoc nmAH 0) ("_convert_string_type" : Str) (lCons (bLoc nmAH 2) lNil) (kOne ("name" : Str) (bVal (.bool false)))) [(gLoc nmAH 2)])
  (xSeq (xExpr (bMeth c m (bLoc nmAH 4) ("append" : Str) (lCons (bLoc nmAH 2) lNil) kNil))
  xPass)) xPass)
  (xSeq (xFor (iList (bMeth c m (bLoc nmAH 3) ("items" : Str) lNil kNil)) (gTup [(gLoc nmAH 5), (gLoc nmAH 6)]) (xSeq (xAsg (bMeth c m (bLoc nmAH 0) ("_convert_string_type" : Str) (lCons (bLoc nmAH 5) lNil) (kOne ("name" : Str) (bVal (.bool true)))) [(gLoc nmAH 5)])
  (xSeq (xIf (tCmp .Is (bLoc nmAH 6) (bVal .none)) (xSeq (xExpr (bMeth c m (bLoc nmAH 4) ("append" : Str) (lCons (bMeth c m (bLoc nmAH 5) ("replace" : Str) (lCons (bVal (.str ("_" : Str))) (lCons (bVal (.str ("-" : Str))) lNil)) kNil) lNil) kNil))
  xPass) (xSeq (xAsg (bMeth c m (bLoc nmAH 0) ("_convert_string_type" : Str) (lCons (bLoc nmAH 6) lNil) (kOne ("name" : Str) (bVal (.bool false)))) [(gLoc nmAH 6)])
  (xSeq xFail
  xPass)))
  xPass)) xPass)
  (xSeq (xExpr (bMeth c m (bAttr ga (bLoc nmAH 0) ("_headers" : Str)) ("append" : Str) (lCons (bTup (lCons (bMeth c m (bLoc nmAH 0) ("_convert_string_type" : Str) (lCons (bLoc nmAH 1) lNil) (kOne ("name" : Str) (bVal (.bool true)))) (lCons (bMeth c m (bVal (.str ("; " : Str))) ("join" : Str) (lCons (bLoc nmAH 4) lNil) kNil) lNil))) lNil) kNil))
  xPass))))
theorem m_join {r : MethF} {s : Str} {st : St} : mOr mStr r (.str s) ("join" : Str) st = some (.blt "str.join", [.str s]) := rfl
theorem c_join {q : CallF} {st : St} {s : Str} {k : Nat} {ys : List Str} (h : st[k]? = some (.list (strsV ys))) (h2 : (ys.map (·.length)).sum + ys.length * s.length ≤ 16777216) : cOr blts q (.blt "str.join") [.str s, .ref k] [] st = some (.str (Txt.join s ys), st) := by
  have : cStrM (.blt "str.join") [.str s, .ref k] [] st = some (.str (Txt.join s ys), st) := by
    show (itemsAt st k).bind (fun xs => (strsOf xs).bind fun ys => if (ys.map (·.length)).sum + ys.length * s.length ≤ 16777216 then some (AV.str (Txt.join s ys), st) else .none) = _
    unfold itemsAt
    rw [h]
    dsimp only
    rw [Option.bind_some]
    unfold strsV
    rw [strsOf_map, Option.bind_some, if_pos h2]
  exact cor_l (cor_r rfl (cor_r rfl (cor_r rfl (cor_r rfl (cor_r rfl (cor_r rfl (cor_r rfl (cor_r rfl (cor_l this)))))))))
theorem join_one (s x : Str) : Txt.join s [x] = x := rfl
theorem c_join1 {q : CallF} {st : St} {s v : Str} {k : Nat} (h : st[k]? = some (.list [.str v])) (h2 : v.length ≤ 1000) (h3 : s.length ≤ 1000) : cOr blts q (.blt "str.join") [.str s, .ref k] [] st = some (.str v, st) := by
  rw [c_join (ys := [v]) h (by simp; omega), join_one]
theorem m_items {r1 : MethF} {st : St} {k : Nat} (h : st[k]? = some .edict) : mOr mStr (mOr mSet r1) (.ref k) ("items" : Str) st = some (.blt "dict.items", [.ref k]) := by
  have h1 : mStr (.ref k) ("items" : Str) st = none := by
    show (listAt st k).bind _ = none
    unfold listAt
    rw [h]; rfl
  have h2 : mSet (.ref k) ("items" : Str) st = some (.blt "dict.items", [.ref k]) := by
    show (match st[k]? with | some (.set1 _) => if ("items" : Str) = "pop" then some (AV.blt "set.pop", [AV.ref k]) else .none | some .edict => if ("items" : Str) = "items" then some (AV.blt "dict.items", [AV.ref k]) else .none | _ => .none) = _
    rw [h]
    dsimp only
    rw [if_pos rfl]
  unfold mOr
  rw [h1]
  dsimp only
  rw [h2]
theorem c_ditems {q : CallF} {st : St} {k : Nat} (h : st[k]? = some .edict) : cOr blts (cOr cSet q) (.blt "dict.items") [.ref k] [] st = some (.ref st.length, st ++ [.dview k]) := by
  have : cSet (.blt "dict.items") [.ref k] [] st = some (.ref st.length, st ++ [.dview k]) := by
    show (match st[k]? with | some .edict => some (AV.ref st.length, st ++ [AO.dview k]) | _ => .none) = _
    rw [h]
  exact cor_r rfl (cor_l this)
def RAdd (C : Addr) (hn : List Str) (aF : Addr) : AV → List AV → List (Str × AV) → St → AV × St → Prop := fun f args kw st r =>
  ∃ (k d l : Nat) (ts : List Nat) (items : List (Str × Str)) (nm v : Str), f = .old aF ∧ args = [.ref k, .str nm, .str v] ∧ kw = [] ∧ HdrAt C hn st k d l ts items ∧ (ts.length ≤ 1000 ∧ okS nm = true ∧ nm.length ≤ 1000 ∧ okS v = true ∧ v.length ≤ 1000) ∧
    r = (.none, st.set l (.list (ts.map .ref ++ [.ref st.length])) ++ [.tup [.str nm, .str v]])
section
variable {L : St} {code : Value} {C : Addr} {hn : List Str} {k d l : Nat} {ts : List Nat} {items : List (Str × Str)} {q : CallF} {r1 : MethF}
theorem ah_run {aC : Addr} {ga : AV → Str → St → Option AV} {nm v : Str} (hk : HdrOk C hn (mOr mStr (mOr mSet r1)) ga) (hm : HdrMeth C hn (mOr mStr (mOr mSet r1)) "_convert_string_type" aC) (hq : ∀ (k : Nat) (s : Str) (b : Bool) st, okS s = true → s.length ≤ 1000 → q (.old aC) [.ref k, .str s] [("name", .bool b)] st = some (.str s, st))
    (h : HdrAt C hn L k d l ts items) (hl : ts.length ≤ 1000) (h1 : okS nm = true) (h2 : nm.length ≤ 1000) (h3 : okS v = true) (h4 : v.length ≤ 1000) :
    ∃ fl g, g[4]? = some (.tup [.str nm, .str v]) ∧ retOf fl = .none ∧ ahAct (cOr blts (cOr cSet q)) (mOr mStr (mOr mSet r1)) ga ⟨(L ++ [AO.edict]).length, [], code⟩ ((L ++ [.edict]) ++ [.ns nmAH [some (.ref k), some (.str nm), some (.str v), some (.ref L.length), none, none, none]]) = some (fl, L.set l (.list (ts.map .ref ++ [.ref (L.length + 4)])) ++ g) := by
  have hmc : ∀ R, mOr mStr (mOr mSet r1) (.ref k) ("_convert_string_type" : Str) (L ++ R) = some (.old aC, [.ref k]) := fun R => hm _ _ _ _ (h.app R).i (h.app R).d
  have hga : ∀ R, ga (.ref k) ("_headers" : Str) (L ++ R) = some (.ref l) := fun R => hk.ga _ _ _ _ (h.app R).i (h.app R).d
  have hll := (List.getElem?_eq_some_iff.mp h.l).1
  have hle : (L ++ [AO.edict]).length = L.length + 1 := by simp
  have he : ∀ R, (L ++ .edict :: R)[L.length]? = some .edict := fun R => by rw [getA]; rfl
  have hL : ∀ R : St, (L ++ R)[l]? = some (.list (ts.map .ref)) := fun R => app_get h.l
  have hset : ∀ R v, (L ++ R).set l v = L.set l v ++ R := fun R v => List.set_append_left _ _ hll
  have gp : ∀ (a1 a2 : AO) (xs : List AV) R, (L ++ a1 :: a2 :: .list xs :: R)[L.length + 2]? = some (.list xs) := fun a1 a2 xs R => by rw [getK]; rfl
  have gd : ∀ (a1 a2 a3 : AO) (x : Nat) R, (L ++ a1 :: a2 :: a3 :: .dview x :: R)[L.length + 3]? = some (.dview x) := fun a1 a2 a3 x R => by rw [getK]; rfl
  have hq2 : ∀ (k : Nat) (s : Str) (b : Bool) st, okS s = true → s.length ≤ 1000 → cOr cSet q (.old aC) [.ref k, .str s] [("name", .bool b)] st = some (.str s, st) := fun k s b st e1 e2 => cor_r rfl (hq k s b st e1 e2)
  rw [hle]
  refine ⟨.next, [.edict, .ns nmAH [some (.ref k), some (.str nm), some (.str v), some (.ref L.length), some (.ref (L.length + 2)), none, none], .list [.str v], .dview L.length, .tup [.str nm, .str v]], rfl, rfl, ?_⟩
  unfold ahAct
  have z0 : (0 ≤ 1000) = True := by simp
  refine seqT (st1 := L ++ [.edict, .ns nmAH [some (.ref k), some (.str nm), some (.str v), some (.ref L.length), some (.ref (L.length + 2)), none, none], .list []]) (by simp -implicitDefEqProofs only [ev, ↓reduceIte, Nat.reduceAdd, reduceCtorEq, z0]) ?_
  refine seqT (st1 := L ++ [.edict, .ns nmAH [some (.ref k), some (.str nm), some (.str v), some (.ref L.length), some (.ref (L.length + 2)), none, none], .list [.str v]]) ?_ ?_
  · simp -implicitDefEqProofs only [ev, ↓reduceIte, Nat.reduceAdd, reduceCtorEq, hmc, c_old, hq2 _ _ _ _ h3 h4, m_append (gp _ _ _ _), c_append (xs := []) (gp _ _ _ _) (by simp)]
  refine seqT (st1 := L ++ [.edict, .ns nmAH [some (.ref k), some (.str nm), some (.str v), some (.ref L.length), some (.ref (L.length + 2)), none, none], .list [.str v], .dview L.length]) ?_ ?_
  · have hsrc : iList (bMeth (cOr blts (cOr cSet q)) (mOr mStr (mOr mSet r1)) (bLoc nmAH 3) ("items" : Str) lNil kNil) ⟨L.length + 1, [], code⟩ (L ++ [.edict, .ns nmAH [some (.ref k), some (.str nm), some (.str v), some (.ref L.length), some (.ref (L.length + 2)), none, none], .list [.str v]]) =
        some (.nil L.length, L ++ [.edict, .ns nmAH [some (.ref k), some (.str nm), some (.str v), some (.ref L.length), some (.ref (L.length + 2)), none, none], .list [.str v], .dview L.length]) := by
      simp -implicitDefEqProofs only [ev, ↓reduceIte, Nat.reduceAdd, reduceCtorEq, m_items (he _), c_ditems (he _), itemsAt, viewAt, gd, he]
    unfold xFor
    rw [hsrc, Option.bind_some]
    refine for_end ?_ rfl
    unfold inext
    dsimp only
    rw [he]
  · refine seqT (st1 := L.set l (.list (ts.map .ref ++ [.ref (L.length + 4)])) ++ [.edict, .ns nmAH [some (.ref k), some (.str nm), some (.str v), some (.ref L.length), some (.ref (L.length + 2)), none, none], .list [.str v], .dview L.length, .tup [.str nm, .str v]]) ?_ rfl
    have z2 : (2 ≤ 1000) = True := by simp
    have cj : ∀ (a1 a2 : AO) R, cOr blts (cOr cSet q) (.blt "str.join") [.str ("; " : Str), .ref (L.length + 2)] [] (L ++ a1 :: a2 :: .list [.str v] :: R) = some (.str v, L ++ a1 :: a2 :: .list [.str v] :: R) := fun a1 a2 R => c_join1 (gp _ _ _ _) h4 (by decide)
    have hcl : (ts.map AV.ref).length ≤ 1000000 := by rw [List.length_map]; omega
    simp -implicitDefEqProofs only [ev, ↓reduceIte, Nat.reduceAdd, reduceCtorEq, hga, m_append (hL _), hmc, c_old, hq2 _ _ _ _ h1 h2, m_join, cj, z2, c_append (hL _) hcl, hset]
end
section
variable {prog : Program} {w : World} {mg mb : Str → Option Value} {X : Heap → List TabD → Prop} (S : Sys prog w mg mb X) {C : Addr} {hn : List Str}
theorem ah_told {aF aC : Addr} {r1 : MethF} (d : Nat) (hm0 : S.m = mOr mStr (mOr mSet r1)) (hk : HdrOk C hn S.m S.ga) (hm : HdrMeth C hn S.m "_convert_string_type" aC) (hC : S.C d (sumConv aC))
    (hp : ∀ c (x y z : AV) L, ∃ code, prep S.K (S.R c) 60 aF [x, y, z] [] L = some (L ++ [.edict], [.ns nmAH [some x, some y, some z, some (.ref L.length), none, none, none]], [], code, ahAct c S.m S.ga)) : S.CC (d + 1) (cRel (RAdd C hn aF)) := by
  refine S.told (q := cOr cSet (sumConv aC)) (sound_cor sound_cset hC) fun f args kw st r h hw => ?_
  obtain ⟨k, d', l, ts, items, nm, v, rfl, rfl, rfl, h1, ⟨h2, h3, h4, h5, h6⟩, rfl⟩ := cRel_some h
  obtain ⟨code, hp⟩ := hp (cOr blts (cOr cSet (sumConv aC))) (.ref k) (.str nm) (.str v) st
  rw [hm0] at hk hm hp
  obtain ⟨fl, g, g1, g2, g3⟩ := ah_run (q := sumConv aC) (code := code) hk hm (fun k s b st a b => sumConv_at k s st a b) h1 h2 h3 h4 h5 h6
  refine ⟨fl, _, (run_prep hp).trans g3, ?_⟩
  rw [g2]
  exact trimApp hw h1.l g1
theorem RAdd_at {aF : Addr} {st : St} {k d l : Nat} {ts : List Nat} {items : List (Str × Str)} {nm v : Str} (h : HdrAt C hn st k d l ts items) (h2 : ts.length ≤ 1000) (h3 : okS nm = true) (h4 : nm.length ≤ 1000) (h5 : okS v = true) (h6 : v.length ≤ 1000) :
    cRel (RAdd C hn aF) (.old aF) [.ref k, .str nm, .str v] [] st = some (.none, st.set l (.list (ts.map .ref ++ [.ref st.length])) ++ [.tup [.str nm, .str v]]) :=
  cRel_of ⟨k, d, l, ts, items, nm, v, rfl, rfl, rfl, h, ⟨h2, h3, h4, h5, h6⟩, rfl⟩ fun r' ⟨k', d', l', ts', items', nm', v', _, e, _, h', _, hr⟩ => by
    cases e
    obtain ⟨rfl, rfl, rfl, rfl⟩ := h.uniq h'
    exact hr
end
def nmIn : List Str := ["self", "headers", "k", "v"]
def initAct (aF1 aF2 : Str) (c : CallF) (m : MethF) (sa : AV → Str → AV → St → Option St) : Act AFlow := (xSeq (xAsg (bIte (tCmp .IsNot (bLoc nmIn 1) (bVal .none)) (bLoc nmIn 1) (bList lNil)) [(gLoc nmIn 1)])
  (xSeq (xIf (tCmp .IsNot (bCall c (bVal (.typ "type")) (lCons (bLoc nmIn 1) lNil) kNil) (bVal (.typ "list"))) (xSeq xFail
  xPass) xPass)
  (xSeq (xAsg (bLoc nmIn 1) [(gAttr sa (bLoc nmIn 0) ("_headers" : Str))])
  (xSeq (xIf (tVal (bVal (.bool Bool.true))) (xSeq (xFor (iList (bLoc nmIn 1)) (gTup [(gLoc nmIn 2), (gLoc nmIn 3)]) (xSeq (xExpr (bMeth c m (bLoc nmIn 0) ("_convert_string_type" : Str) (lCons (bLoc nmIn 2) lNil) (kOne ("name" : Str) (bVal (.bool Bool.true)))))
  (xSeq (xExpr (bMeth c m (bLoc nmIn 0) ("_convert_string_type" : Str) (lCons (bLoc nmIn 3) lNil) (kOne ("name" : Str) (bVal (.bool Bool.false)))))
  xPass)) xPass)
  xPass) xPass)
  xPass))))
def hns (hn : List Str) (l : Nat) : AO := .ns hn (some (.ref l) :: List.replicate (hn.length - 1) .none)
def RInit (C : Addr) (hn : List Str) (aF : Addr) : AV → List AV → List (Str × AV) → St → AV × St → Prop := fun f args kw st r =>
  ∃ (k d l : Nat), f = .old aF ∧ args = [.ref k, .ref l] ∧ kw = [] ∧ st[k]? = some (.inst C d) ∧ st[d]? = some .edict ∧ st[l]? = some (.list []) ∧ r = (.none, st.set d (hns hn l))
theorem trimNs {st g : St} {k l : Nat} {hn : List Str} (hw : WF st) (hl : l < st.length) : Trim st (st.set k (hns hn l) ++ g) .none (.none, st.set k (hns hn l)) := by
  have hren : ∀ f : Nat → Nat, f l = l → (hns hn l).ren f = hns hn l := fun f hf => by
    unfold hns AO.ren
    simp [AV.ren, hf]
  refine ⟨[], List.nodup_nil, fun j h => (by cases h), by simp, by simp, fun j ao2 h => ?_, rfl⟩
  have hj := (List.getElem?_eq_some_iff.mp h).1
  have hj' : j < st.length := by simpa using hj
  by_cases e : k = j
  · subst e
    rw [List.getElem?_set_self hj'] at h
    cases h
    left
    rw [hren _ (by unfold fj; rw [if_pos hl])]
    unfold fj
    rw [if_pos hj', List.getElem?_append_left (by simpa using hj'), List.getElem?_set_self hj']
  · rw [List.getElem?_set_ne e] at h
    exact .inr ⟨hj', by rw [List.getElem?_append_left (by simpa using hj'), List.getElem?_set_ne e]; exact h, hw j ao2 h⟩
theorem c_typeL {q : CallF} {st : St} {k : Nat} {xs : List AV} (h : st[k]? = some (.list xs)) : cOr blts q (.typ "type") [.ref k] [] st = some (.typ "list", st) := by
  have : cType (.typ "type") [.ref k] [] st = some (.typ "list", st) := by
    show (itemsAt st k).map (fun _ => (AV.typ "list", st)) = _
    unfold itemsAt
    rw [h]; rfl
  exact cor_l (cor_r rfl (cor_r rfl (cor_r rfl (cor_l this))))
section
variable {prog : Program} {w : World} {mg mb : Str → Option Value} {X : Heap → List TabD → Prop} (S : Sys prog w mg mb X) {C : Addr} {hn : List Str}
theorem init_told {aF : Addr} {x1 x2 : Str} (d : Nat) (hsa : ∀ (st : St) (k d : Nat) (v : AV), st[k]? = some (.inst C d) → st[d]? = some .edict → S.sa (.ref k) ("_headers" : Str) v st = some (st.set d (.ns hn (some v :: List.replicate (hn.length - 1) .none))))
    (hp : ∀ c (x y : AV) L, ∃ code, prep S.K (S.R c) 60 aF [x, y] [] L = some (L, [.ns nmIn [some x, some y, none, none]], [], code, initAct x1 x2 c S.m S.sa)) : S.CC (d + 1) (cRel (RInit C hn aF)) := by
  refine S.told (d := d) S.none_sound fun f args kw st r h hw => ?_
  obtain ⟨k, dd, l, rfl, rfl, rfl, h1, h2, h3, rfl⟩ := cRel_some h
  obtain ⟨code, hp⟩ := hp (cOr blts fun _ _ _ _ => .none) (.ref k) (.ref l) st
  have hlt := (List.getElem?_eq_some_iff.mp h3).1
  have hdt := (List.getElem?_eq_some_iff.mp h2).1
  have hld : l ≠ dd := fun e => by rw [e, h2] at h3; cases h3
  have hL : ∀ R : St, (st ++ R)[l]? = some (.list []) := fun R => app_get h3
  have hs : ∀ (R : St) (v : AV), S.sa (.ref k) ("_headers" : Str) v (st ++ R) = some (st.set dd (.ns hn (some v :: List.replicate (hn.length - 1) .none)) ++ R) := fun R v => by
    rw [hsa _ _ _ _ (app_get h1) (app_get h2), List.set_append_left _ _ hdt]
  have hL2 : ∀ (a : AO) (R : St), (st.set dd a ++ R)[l]? = some (.list []) := fun a R => app_get (by rw [List.getElem?_set_ne (Ne.symm hld)]; exact h3)
  have hlen : ∀ a : AO, (st.set dd a).length = st.length := fun a => by simp
  have gA : ∀ (a : AO) (R : St), (st.set dd a ++ R)[st.length]? = R[0]? := fun a R => by rw [← hlen a]; exact getA
  have d1 : ∀ st, acmp .IsNot (.ref l) .none st = some true := fun st => rfl
  have d2 : ∀ st, acmp .IsNot (.typ "list") (.typ "list") st = some false := fun st => rfl
  refine ⟨.next, st.set dd (hns hn l) ++ [.ns nmIn [some (.ref k), some (.ref l), none, none]], (run_prep hp).trans ?_, trimNs hw hlt⟩
  unfold initAct
  refine seqT (st1 := st ++ [.ns nmIn [some (.ref k), some (.ref l), none, none]]) (by simp -implicitDefEqProofs only [ev, ↓reduceIte, Nat.reduceAdd, reduceCtorEq, d1]) ?_
  refine seqT (st1 := st ++ [.ns nmIn [some (.ref k), some (.ref l), none, none]]) (by simp -implicitDefEqProofs only [ev, ↓reduceIte, Nat.reduceAdd, reduceCtorEq, c_typeL (hL _), d2]) ?_
  refine seqT (st1 := st.set dd (hns hn l) ++ [.ns nmIn [some (.ref k), some (.ref l), none, none]]) (by simp -implicitDefEqProofs only [ev, ↓reduceIte, Nat.reduceAdd, reduceCtorEq, hs, hns]) ?_
  refine seqT (st1 := st.set dd (hns hn l) ++ [.ns nmIn [some (.ref k), some (.ref l), none, none]]) ?_ rfl
  have t1 : ∀ b st, atru (.bool b) st = some b := fun b st => rfl
  have hfor : xFor (iList (bLoc nmIn 1)) (gTup [(gLoc nmIn 2), (gLoc nmIn 3)]) (xSeq (xExpr (bMeth (cOr blts fun _ _ _ _ => .none) S.m (bLoc nmIn 0) ("_convert_string_type" : Str) (lCons (bLoc nmIn 2) lNil) (kOne ("name" : Str) (bVal (.bool Bool.true)))))
  (xSeq (xExpr (bMeth (cOr blts fun _ _ _ _ => .none) S.m (bLoc nmIn 0) ("_convert_string_type" : Str) (lCons (bLoc nmIn 3) lNil) (kOne ("name" : Str) (bVal (.bool Bool.false)))))
  xPass)) xPass ⟨st.length, [], code⟩ (st.set dd (hns hn l) ++ [.ns nmIn [some (.ref k), some (.ref l), none, none]]) = some (.next, st.set dd (hns hn l) ++ [.ns nmIn [some (.ref k), some (.ref l), none, none]]) := by
    have hi : itemsAt (st.set dd (hns hn l) ++ [.ns nmIn [some (.ref k), some (.ref l), none, none]]) l = some [] := by unfold itemsAt; rw [hL2]
    have hsrc : iList (bLoc nmIn 1) ⟨st.length, [], code⟩ (st.set dd (hns hn l) ++ [.ns nmIn [some (.ref k), some (.ref l), none, none]]) = some (.lst l, st.set dd (hns hn l) ++ [.ns nmIn [some (.ref k), some (.ref l), none, none]]) := by
      simp -implicitDefEqProofs only [ev, ↓reduceIte, Nat.reduceAdd, reduceCtorEq, gA, hi]
    unfold xFor
    rw [hsrc, Option.bind_some]
    exact for_end (by rw [inext_lst (hL2 _ _)]; rfl) rfl
  obtain ⟨body, hbody⟩ : ∃ body, body = xFor (iList (bLoc nmIn 1)) (gTup [(gLoc nmIn 2), (gLoc nmIn 3)]) (xSeq (xExpr (bMeth (cOr blts fun _ _ _ _ => .none) S.m (bLoc nmIn 0) ("_convert_string_type" : Str) (lCons (bLoc nmIn 2) lNil) (kOne ("name" : Str) (bVal (.bool Bool.true)))))
  (xSeq (xExpr (bMeth (cOr blts fun _ _ _ _ => .none) S.m (bLoc nmIn 0) ("_convert_string_type" : Str) (lCons (bLoc nmIn 3) lNil) (kOne ("name" : Str) (bVal (.bool Bool.false)))))
  xPass)) xPass := ⟨_, rfl⟩
  rw [← hbody] at hfor ⊢
  simp only [xIf, tVal, bVal, Option.bind_some, t1, Option.map_some, if_true]
  exact seqT hfor rfl
theorem make_at {C fI : Addr} {st : St} {l : Nat} (hmk : makeIn S.K C = some fI) (hl : st[l]? = some (.list [])) :
    cMake S.K (cRel (RInit C hn fI)) (.old C) [.ref l] [] st = some (.ref (st.length + 1), st ++ [hns hn l, .inst C st.length]) := by
  have hlt := (List.getElem?_eq_some_iff.mp hl).1
  have hr : cRel (RInit C hn fI) (.old fI) [.ref (st.length + 1), .ref l] [] (st ++ [.edict, .inst C st.length]) = some (.none, st ++ [hns hn l, .inst C st.length]) := by
    have hR : RInit C hn fI (.old fI) [.ref (st.length + 1), .ref l] [] (st ++ [.edict, .inst C st.length]) (.none, st ++ [hns hn l, .inst C st.length]) :=
      ⟨st.length + 1, st.length, l, rfl, rfl, rfl, by rw [getK]; rfl, by rw [getA]; rfl, app_get hl, by rw [setA]; rfl⟩
    refine cRel_of hR fun r' ⟨k', d', l', _, e, _, h1, h2, h3, hr'⟩ => ?_
    cases e
    have h1' : (st ++ [AO.edict, .inst C st.length])[st.length + 1]? = some (.inst C d') := h1
    rw [getK] at h1'
    cases h1'
    rw [hr', setA]; rfl
  unfold cMake
  dsimp only
  rw [hmk, Option.bind_some, hr, Option.bind_some]
end
theorem aitem_at {st : St} {k i : Nat} {xs : List AV} {v : AV} (h : st[k]? = some (.list xs)) (hi : xs[i]? = some v) (hl : i < 1000) : aitem (.ref k) (.int (i : Int)) st = some (v, st) := by
  unfold aitem seqAt
  dsimp only
  rw [h]
  dsimp only
  rw [Option.bind_some, if_pos ⟨by omega, by omega⟩, Int.toNat_natCast, hi]
  rfl
def nmPr : List Str := ["gap"]
def priceAct : Act AFlow := (xSeq (xRet (bBin .Add (bItem (bList (lCons (bVal (.int 0)) (lCons (bVal (.int 1)) (lCons (bVal (.int 2)) (lCons (bVal (.int 2)) lNil))))) (bBin .Mod (bLoc nmPr 0) (bVal (.int 4)))) (bItem (bList (lCons (bVal (.int 0)) (lCons (bVal (.int 1)) (lCons (bVal (.int 2)) (lCons (bVal (.int 2)) lNil))))) (bBin .FloorDiv (bLoc nmPr 0) (bVal (.int 4))))))
  xPass)
def pt (i : Nat) : Nat := if i = 0 then 0 else if i = 1 then 1 else 2
def priceF (g : Nat) : Nat := pt (g % 4) + pt (g / 4)
theorem pt_get : ∀ i : Fin 4, ([AV.int 0, AV.int 1, AV.int 2, AV.int 2])[i.val]? = some (.int (pt i.val : Nat)) := by
  intro i
  match i with
  | ⟨0, _⟩ => rfl
  | ⟨1, _⟩ => rfl
  | ⟨2, _⟩ => rfl
  | ⟨3, _⟩ => rfl
def sumPrice (aP : Addr) : CallF := fun f args kw st => match f, args, kw with
  | .old a, [.int g], [] => if a = aP ∧ 0 ≤ g ∧ g < 16 then some (.int (priceF g.toNat : Nat), st) else .none
  | _, _, _ => .none
theorem sumPrice_at {aP : Addr} {g : Nat} {st : St} (h : g < 16) : sumPrice aP (.old aP) [.int (g : Int)] [] st = some (.int (priceF g : Nat), st) := by
  show (if aP = aP ∧ 0 ≤ (g : Int) ∧ (g : Int) < 16 then some (AV.int (priceF (g : Int).toNat : Nat), st) else .none) = _
  rw [if_pos ⟨rfl, by omega, by omega⟩, Int.toNat_natCast]
def nmFi : List Str := ["number", "count"]
def filledAct (aI : Addr) (c : CallF) : Act AFlow := (xSeq (xRet (bSlice (bBin .Add (bCall c (bVal (.old aI)) (lCons (bLoc nmFi 0) (lCons (bVal (.int 4)) lNil)) kNil) (bBin .Mult (bList (lCons (bVal (.int 0)) lNil)) (bLoc nmFi 1))) (bVal .none) (bLoc nmFi 1)))
  xPass)
theorem digN_zero (B : Nat) : ∀ m, digN B m 0 = List.replicate m 0
  | 0 => rfl
  | m + 1 => by show (0 % B) :: digN B m (0 / B) = _; rw [Nat.zero_mod, Nat.zero_div, digN_zero B m]; rfl
theorem digN_take (B : Nat) (hB : 0 < B) {m x c : Nat} (hx : x < B ^ m) : (digN B m x ++ List.replicate c 0).take c = digN B c x := by
  have h1 : digN B m x ++ List.replicate c 0 = digN B (m + c) x := by rw [digN_add B hB, Nat.div_eq_of_lt hx, digN_zero]
  rw [h1]
  have h2 : digN B (m + c) x = digN B c x ++ digN B m (x / B ^ c) := by rw [Nat.add_comm, digN_add B hB]
  rw [h2, List.take_append_of_le_length (by rw [digN_len]; exact Nat.le_refl _), List.take_of_length_le (by rw [digN_len]; exact Nat.le_refl _)]
def sumFilled (aF : Addr) : CallF := fun f args kw st => match f, args, kw with
  | .old a, [.int x, .int c], [] => if a = aF ∧ 0 ≤ x ∧ 0 ≤ c ∧ c ≤ 100 ∧ x < 2 ^ 128 then some (.ref st.length, st ++ [.list (nts (digN 16 c.toNat x.toNat))]) else .none
  | _, _, _ => .none
theorem sumFilled_at {aF : Addr} {x c : Nat} {st : St} (h1 : c ≤ 100) (h2 : x < 2 ^ 128) : sumFilled aF (.old aF) [.int (x : Int), .int (c : Int)] [] st = some (.ref st.length, st ++ [.list (nts (digN 16 c x))]) := by
  show (if aF = aF ∧ 0 ≤ (x : Int) ∧ 0 ≤ (c : Int) ∧ (c : Int) ≤ 100 ∧ (x : Int) < 2 ^ 128 then some (AV.ref st.length, st ++ [.list (nts (digN 16 (c : Int).toNat (x : Int).toNat))]) else .none) = _
  rw [if_pos ⟨rfl, by omega, by omega, by omega, by omega⟩, Int.toNat_natCast, Int.toNat_natCast]
theorem dlen_le {x n k : Nat} (hn : 0 < n) (h : x < 2 ^ k) : dlen x n ≤ k := by
  unfold dlen
  have : Builtin.Int.intBits (x : Int) ≤ k := intBits_le h
  have h2 : (Builtin.Int.intBits (x : Int) + n - 1) / n ≤ (k + n - 1) / n := Nat.div_le_div_right (by omega)
  have h4 : (k + n - 1) / n < k + 1 := (Nat.div_lt_iff_lt_mul hn).mpr (by
    have : k * 1 ≤ k * n := Nat.mul_le_mul_left k hn
    rw [Nat.add_mul]; omega)
  omega
theorem aslice_to {st : St} {k c : Nat} {xs : List AV} (h : st[k]? = some (.list xs)) (hl : xs.length ≤ 1000) (hc : c ≤ xs.length) : aslice (.ref k) .none (.int (c : Int)) st = some (.ref st.length, st ++ [.list (xs.take c)]) := by
  unfold aslice partOf
  simp only [Option.bind_some, h]
  rw [if_pos hl]
  have : clipAt xs.length (c : Int) = c := by
    have := clipAt_cast xs.length (c : Int)
    rw [if_neg (by omega)] at this
    omega
  simp [this]
def nmW : List Str := ["number", "steps", "bits", "held", "i", "figures"]
def wordIn : Act AFlow := (xSeq (xIf (tCmp .Eq (bItem (bLoc nmW 2) (bLoc nmW 4)) (bVal (.int 1))) (xSeq (xAsg (bBin .BitXor (bLoc nmW 3) (bItem (bLoc nmW 1) (bLoc nmW 4))) [(gLoc nmW 3)])
  xPass) xPass)
  xPass)
def wordAct (aI : Addr) (c : CallF) : Act AFlow := (xSeq (xAsg (bCall c (bVal (.old aI)) (lCons (bLoc nmW 0) (lCons (bVal (.int 1)) lNil)) kNil) [(gLoc nmW 2)])
  (xSeq (xAsg (bVal (.int 0)) [(gLoc nmW 3)])
  (xSeq (xFor (iCall (bVal (.typ "range")) (lCons (bCall c (bVal (.blt "len")) (lCons (bLoc nmW 2) lNil) kNil) lNil)) (gLoc nmW 4) wordIn xPass)
  (xSeq (xAsg (bBin .Add (bCall c (bVal (.old aI)) (lCons (bLoc nmW 3) (lCons (bVal (.int 2)) lNil)) kNil) (bList (lCons (bVal (.int 0)) (lCons (bVal (.int 0)) lNil)))) [(gLoc nmW 5)])
  (xSeq (xRet (bBin .Add (bItem (bVal (.str (sx [97, 65, 98, 66]))) (bItem (bLoc nmW 5) (bVal (.int 0)))) (bItem (bVal (.str (sx [99, 67, 100, 68]))) (bItem (bLoc nmW 5) (bVal (.int 1))))))
  xPass)))))
def heldGo : List Nat → List Nat → Nat → Nat
  | b :: bs, s :: ss, h => heldGo bs ss (if b = 1 then h ^^^ s else h)
  | _, _, h => h
def heldF (ss : List Nat) (k : Nat) : Nat := heldGo (digN 2 (dlen k 1) k) ss 0
def letA (i : Nat) : Nat := ([97, 65, 98, 66] : List Nat).getD i 0
def letB (i : Nat) : Nat := ([99, 67, 100, 68] : List Nat).getD i 0
def wordL (h : Nat) : List Nat := [letA (h % 4), letB (h / 4)]
theorem xor_lt16 {a b : Nat} (ha : a < 16) (hb : b < 16) : a ^^^ b < 16 := Nat.xor_lt_two_pow (n := 4) ha hb
theorem heldGo_lt : ∀ (bs ss : List Nat) (h : Nat), h < 16 → (∀ s ∈ ss, s < 16) → heldGo bs ss h < 16
  | [], _, _, h, _ => h
  | _ :: _, [], _, h, _ => h
  | b :: bs, s :: ss, h, hh, hs => by
    show heldGo bs ss _ < 16
    apply heldGo_lt bs ss _ _ fun x hx => hs x (List.mem_cons_of_mem _ hx)
    split
    · exact xor_lt16 hh (hs s (List.mem_cons_self ..))
    · exact hh
theorem sx_app (a b : List Nat) : sx a ++ sx b = sx (a ++ b) := by
  show Str.append _ _ = _
  unfold Str.append sx
  simp
section
variable {L : St} {code : Value} {q : CallF} {r0 : MethF}
def wordS (k ks : Nat) (lb : Nat) (held : Nat) (i fig : Option AV) (bits : List Nat) : St := [.ns nmW [some (.int (k : Int)), some (.ref ks), some (.ref lb), some (.int (held : Int)), i, fig], .list (nts bits)]
theorem word_loop {k ks : Nat} {ss bits : List Nat} (hks : L[ks]? = some (.list (nts ss))) (hle : bits.length ≤ ss.length) (hl : ss.length ≤ 100) :
    ∀ (br sr : List Nat) (i fuel held : Nat) (iv : Option AV), bits.drop i = br → ss.drop i = sr → br.length < fuel → ∃ iv',
      forGo (.rng 0 1 bits.length) (gLoc nmW 4) wordIn xPass ⟨L.length, [], code⟩ fuel i (L ++ wordS k ks (L.length + 1) held iv none bits) = some (.next, L ++ wordS k ks (L.length + 1) (heldGo br sr held) iv' none bits) := by
  intro br
  induction br with
  | nil =>
    intro sr i fuel held iv hd hs hf
    obtain ⟨f, rfl⟩ : ∃ f, fuel = f + 1 := ⟨fuel - 1, by omega⟩
    refine ⟨iv, (for_end (inext_rng_end (List.drop_eq_nil_iff.mp hd)) rfl).trans ?_⟩
    rw [heldGo]
    · rfl
    · intros; simp_all
  | cons b br ih =>
    intro sr i fuel held iv hd hs hf
    obtain ⟨f, rfl⟩ : ∃ f, fuel = f + 1 := ⟨fuel - 1, by omega⟩
    have hb : bits[i]? = some b := by have := congrArg (·[0]?) hd; simpa using this
    have hlt := (List.getElem?_eq_some_iff.mp hb).1
    obtain ⟨s, hsi⟩ : ∃ s, ss[i]? = some s := ⟨_, List.getElem?_eq_getElem (by omega)⟩
    have hsr : sr = s :: ss.drop (i + 1) := by
      obtain ⟨h1, h2⟩ := List.getElem?_eq_some_iff.mp hsi
      rw [← hs, List.drop_eq_getElem_cons h1, h2]
    subst hsr
    have hd' : bits.drop (i + 1) = br := by
      have := congrArg (List.drop 1) hd
      simpa [List.drop_drop, Nat.add_comm] using this
    obtain ⟨iv', h⟩ := ih (ss.drop (i + 1)) (i + 1) f (if b = 1 then held ^^^ s else held) (some (.int (i : Int))) hd' rfl (by simp at hf; omega)
    have i1 : ∀ (a : AO) R, aitem (.ref (L.length + 1)) (.int (i : Int)) (L ++ a :: .list (nts bits) :: R) = some (.int (b : Int), L ++ a :: .list (nts bits) :: R) := fun a R => aitem_at (xs := nts bits) (by rw [getK]; rfl) (nts_get hb) (by omega)
    have i2 : ∀ R, aitem (.ref ks) (.int (i : Int)) (L ++ R) = some (.int (s : Int), L ++ R) := fun R => aitem_at (app_get hks) (nts_get hsi) (by omega)
    refine ⟨iv', for_next (inext_rng hlt) (st1 := L ++ wordS k ks (L.length + 1) held (some (.int (i : Int))) none bits) ?_ (st2 := L ++ wordS k ks (L.length + 1) (if b = 1 then held ^^^ s else held) (some (.int (i : Int))) none bits) ?_ h⟩
    · unfold wordS; simp -implicitDefEqProofs only [ev, ↓reduceIte, Nat.reduceAdd, reduceCtorEq]
    · unfold wordIn wordS
      by_cases hb1 : b = 1
      · subst hb1
        have d1 : decide (((1 : Nat) : Int) = 1) = true := rfl
        simp -implicitDefEqProofs only [ev, ↓reduceIte, Nat.reduceAdd, reduceCtorEq, i1, i2, d1, bitXor_nat]
      · have d1 : decide ((b : Int) = 1) = false := decide_eq_false (by omega)
        simp -implicitDefEqProofs only [ev, ↓reduceIte, Nat.reduceAdd, reduceCtorEq, i1, d1, hb1]
theorem fig_get : ∀ h : Fin 16, (digN 4 (dlen h.val 2) h.val ++ [0, 0])[0]? = some (h.val % 4) ∧ (digN 4 (dlen h.val 2) h.val ++ [0, 0])[1]? = some (h.val / 4) ∧ dlen h.val 2 ≤ 2 := by decide +kernel
theorem letA_get : ∀ i : Fin 4, ([97, 65, 98, 66] : List Nat)[i.val]? = some (letA i.val) := by decide
theorem letB_get : ∀ i : Fin 4, ([99, 67, 100, 68] : List Nat)[i.val]? = some (letB i.val) := by decide
theorem nts_app (a b : List Nat) : nts (a ++ b) = nts a ++ nts b := by unfold nts; simp
theorem word_run {aI : Addr} {k ks : Nat} {ss : List Nat} (hI : ∀ (x n : Nat) st, 0 < n → n ≤ 64 → dlen x n ≤ 128 → q (.old aI) [.int (x : Int), .int (n : Int)] [] st = some (.ref st.length, st ++ [.list (nts (digN (2 ^ n) (dlen x n) x))]))
    (hks : L[ks]? = some (.list (nts ss))) (hk : dlen k 1 ≤ ss.length) (hl : ss.length ≤ 100) (hs : ∀ s ∈ ss, s < 16) :
    ∃ g, wordAct aI (cOr blts q) ⟨L.length, [], code⟩ (L ++ [.ns nmW [some (.int (k : Int)), some (.ref ks), none, none, none, none]]) = some (.ret (.str (sx (wordL (heldF ss k)))), L ++ g) := by
  have hh : heldF ss k < 16 := heldGo_lt _ _ 0 (by omega) hs
  obtain ⟨bits, hbits⟩ : ∃ bits, bits = digN 2 (dlen k 1) k := ⟨_, rfl⟩
  have hbl : bits.length = dlen k 1 := by rw [hbits]; exact digN_len _ _ _
  have hI1 : ∀ st, q (.old aI) [.int (k : Int), .int 1] [] st = some (.ref st.length, st ++ [.list (nts bits)]) := fun st => by
    rw [hbits]; exact hI k 1 st (by omega) (by omega) (by omega)
  have hheld : heldGo bits ss 0 = heldF ss k := by rw [hbits]; rfl
  obtain ⟨iv', hloop⟩ := word_loop (L := L) (code := code) (k := k) (bits := bits) hks (by omega) hl bits ss 0 (bits.length + 1) 0 none rfl rfl (by omega)
  rw [hheld] at hloop
  obtain ⟨H, hH⟩ : ∃ H, H = heldF ss k := ⟨_, rfl⟩
  rw [← hH] at hh hloop ⊢
  obtain ⟨f1, f2, f3⟩ := fig_get ⟨H, hh⟩
  simp only at f1 f2 f3
  have hI2 : ∀ st, q (.old aI) [.int (H : Int), .int 2] [] st = some (.ref st.length, st ++ [.list (nts (digN 4 (dlen H 2) H))]) := fun st => hI H 2 st (by omega) (by omega) (by omega)
  have hrb := rng_nat (n := bits.length) (by omega)
  have hlb : ∀ (a : AO) R, (L ++ a :: .list (nts bits) :: R)[L.length + 1]? = some (.list (nts bits)) := fun a R => by rw [getK]; rfl
  have hlen : (nts bits).length ≤ 1000000 := by rw [nts_len]; omega
  obtain ⟨FG, hFG⟩ : ∃ FG, FG = digN 4 (dlen H 2) H ++ [0, 0] := ⟨_, rfl⟩
  have hfl : ((nts (digN 4 (dlen H 2) H)).length + 2 ≤ 1000) = True := eq_true (by rw [nts_len, digN_len]; omega)
  have happ : nts (digN 4 (dlen H 2) H) ++ [.int 0, .int 0] = nts FG := by rw [hFG, nts_app]; rfl
  rw [← hFG] at f1 f2
  have g2 : ∀ (a1 a2 : AO) (xs : List AV) R, (L ++ a1 :: a2 :: .list xs :: R)[L.length + 2]? = some (.list xs) := fun a1 a2 xs R => by rw [getK]; rfl
  have g3 : ∀ (a1 a2 a3 : AO) (xs : List AV) R, (L ++ a1 :: a2 :: a3 :: .list xs :: R)[L.length + 3]? = some (.list xs) := fun a1 a2 a3 xs R => by rw [getK]; rfl
  have j0 : ∀ (a1 a2 a3 a4 : AO) R, aitem (.ref (L.length + 4)) (.int 0) (L ++ a1 :: a2 :: a3 :: a4 :: .list (nts FG) :: R) = some (.int (H % 4 : Nat), L ++ a1 :: a2 :: a3 :: a4 :: .list (nts FG) :: R) := fun a1 a2 a3 a4 R => aitem_at (i := 0) (xs := nts FG) (by rw [getK]; rfl) (nts_get f1) (by omega)
  have j1 : ∀ (a1 a2 a3 a4 : AO) R, aitem (.ref (L.length + 4)) (.int 1) (L ++ a1 :: a2 :: a3 :: a4 :: .list (nts FG) :: R) = some (.int (H / 4 : Nat), L ++ a1 :: a2 :: a3 :: a4 :: .list (nts FG) :: R) := fun a1 a2 a3 a4 R => aitem_at (i := 1) (xs := nts FG) (by rw [getK]; rfl) (nts_get f2) (by omega)
  have k0 : ∀ st, aitem (.str (sx [97, 65, 98, 66])) (.int (H % 4 : Nat)) st = some (.str (sx [letA (H % 4)]), st) := fun st => aitem_sx (letA_get ⟨H % 4, by omega⟩) (by decide)
  have k1 : ∀ st, aitem (.str (sx [99, 67, 100, 68])) (.int (H / 4 : Nat)) st = some (.str (sx [letB (H / 4)]), st) := fun st => aitem_sx (letB_get ⟨H / 4, by omega⟩) (by decide)
  have k2 : (sx [letA (H % 4)]).length + (sx [letB (H / 4)]).length ≤ 1000 := by rw [sx_len, sx_len]; simp
  have k2' := eq_true k2
  have k3 : sx [letA (H % 4)] ++ sx [letB (H / 4)] = sx (wordL H) := by rw [sx_app]; rfl
  have z2 : (2 ≤ 1000) = True := by simp
  refine ⟨[.ns nmW [some (.int (k : Int)), some (.ref ks), some (.ref (L.length + 1)), some (.int (H : Int)), iv', some (.ref (L.length + 4))], .list (nts bits), .list (nts (digN 4 (dlen H 2) H)), .list [.int 0, .int 0], .list (nts FG)], ?_⟩
  unfold wordAct
  refine seqT (st1 := L ++ [.ns nmW [some (.int (k : Int)), some (.ref ks), some (.ref (L.length + 1)), none, none, none], .list (nts bits)]) (by simp -implicitDefEqProofs only [ev, ↓reduceIte, Nat.reduceAdd, reduceCtorEq, c_old, hI1]) ?_
  refine seqT (st1 := L ++ wordS k ks (L.length + 1) 0 none none bits) (by unfold wordS; simp -implicitDefEqProofs only [ev, ↓reduceIte, Nat.reduceAdd, reduceCtorEq, Int.ofNat_zero, Int.cast_ofNat_Int]) ?_
  refine seqT (st1 := L ++ wordS k ks (L.length + 1) H iv' none bits) ?_ ?_
  · have hsrc : iCall (bVal (.typ "range")) (lCons (bCall (cOr blts q) (bVal (.blt "len")) (lCons (bLoc nmW 2) lNil) kNil) lNil) ⟨L.length, [], code⟩ (L ++ wordS k ks (L.length + 1) 0 none none bits) = some (.rng 0 1 bits.length, L ++ wordS k ks (L.length + 1) 0 none none bits) := by
      unfold wordS
      simp -implicitDefEqProofs only [ev, ↓reduceIte, Nat.reduceAdd, reduceCtorEq, c_lenL (hlb _ _) hlen, nts_len, hrb.1, hrb.2]
    unfold xFor
    rw [hsrc, Option.bind_some]
    exact hloop
  unfold wordS
  refine seqT (st1 := L ++ [.ns nmW [some (.int (k : Int)), some (.ref ks), some (.ref (L.length + 1)), some (.int (H : Int)), iv', some (.ref (L.length + 4))], .list (nts bits), .list (nts (digN 4 (dlen H 2) H)), .list [.int 0, .int 0], .list (nts FG)]) (by simp -implicitDefEqProofs only [ev, ↓reduceIte, Nat.reduceAdd, reduceCtorEq, c_old, hI2, z2, g2, g3, hfl, happ]) ?_
  refine seqR ?_
  simp -implicitDefEqProofs only [ev, ↓reduceIte, Nat.reduceAdd, reduceCtorEq, j0, j1, k0, k1, k2', k3]
end
def nmSt : List Str := ["small", "count", "steps", "i"]
def stIn : Act AFlow := (xSeq (xAsg (bBin .BitXor (bItem (bLoc nmSt 2) (bBin .Mod (bLoc nmSt 3) (bLoc nmSt 1))) (bItem (bLoc nmSt 0) (bLoc nmSt 3))) [(gItem (bLoc nmSt 2) (bBin .Mod (bLoc nmSt 3) (bLoc nmSt 1)))])
  xPass)
def stepsAct (c : CallF) : Act AFlow := (xSeq (xAsg (bSlice (bList (lCons (bVal (.int 2)) (lCons (bVal (.int 1)) (lCons (bVal (.int 4)) (lCons (bVal (.int 9)) lNil))))) (bVal .none) (bLoc nmSt 1)) [(gLoc nmSt 2)])
  (xSeq (xFor (iCall (bVal (.typ "range")) (lCons (bCall c (bVal (.blt "len")) (lCons (bLoc nmSt 0) lNil) kNil) lNil)) (gLoc nmSt 3) stIn xPass)
  (xSeq (xRet (bLoc nmSt 2))
  xPass)))
def stGo (cnt : Nat) : List Nat → Nat → List Nat → List Nat
  | [], _, st => st
  | x :: r, i, st => stGo cnt r (i + 1) (st.set (i % cnt) (st.getD (i % cnt) 0 ^^^ x))
def stepsF (sm : List Nat) (cnt : Nat) : List Nat := stGo cnt sm 0 (([2, 1, 4, 9] : List Nat).take cnt)
theorem stGo_len (cnt : Nat) : ∀ sm i st, (stGo cnt sm i st).length = st.length
  | [], _, _ => rfl
  | x :: r, i, st => by unfold stGo; rw [stGo_len cnt r]; simp
theorem stGo_lt (cnt : Nat) : ∀ (sm : List Nat) (i : Nat) (st : List Nat), (∀ x ∈ sm, x < 16) → (∀ x ∈ st, x < 16) → ∀ x ∈ stGo cnt sm i st, x < 16
  | [], _, _, _, h => h
  | x :: r, i, st, hs, h => by
    unfold stGo
    refine stGo_lt cnt r _ _ (fun y hy => hs y (List.mem_cons_of_mem _ hy)) fun y hy => ?_
    rcases List.mem_or_eq_of_mem_set hy with hy | rfl
    · exact h y hy
    · refine xor_lt16 ?_ (hs x (List.mem_cons_self ..))
      rw [List.getD_eq_getElem?_getD]
      cases hg : st[i % cnt]? with
      | none => simp
      | some z => simpa using h z (List.mem_of_getElem? hg)
theorem nts_set (l : List Nat) (i x : Nat) : (nts l).set i (.int (x : Int)) = nts (l.set i x) := by
  unfold nts
  rw [List.map_set]
section
variable {L : St} {code : Value} {q : CallF}
def stS (ksm cnt : Nat) (k : Nat) (i : Option AV) (st : List Nat) : St := [.ns nmSt [some (.ref ksm), some (.int (cnt : Int)), some (.ref (k + 2)), i], .list [.int 2, .int 1, .int 4, .int 9], .list (nts st)]
theorem st_loop {ksm cnt : Nat} {sm : List Nat} (hks : L[ksm]? = some (.list (nts sm))) (hc0 : 0 < cnt) (hc4 : cnt ≤ 4) (hl : sm.length ≤ 100) :
    ∀ (sr : List Nat) (i fuel : Nat) (st : List Nat) (iv : Option AV), sm.drop i = sr → st.length = cnt → sr.length < fuel → ∃ iv',
      forGo (.rng 0 1 sm.length) (gLoc nmSt 3) stIn xPass ⟨L.length, [], code⟩ fuel i (L ++ stS ksm cnt L.length iv st) = some (.next, L ++ stS ksm cnt L.length iv' (stGo cnt sr i st)) := by
  intro sr
  induction sr with
  | nil =>
    intro i fuel st iv hd hs hf
    obtain ⟨f, rfl⟩ : ∃ f, fuel = f + 1 := ⟨fuel - 1, by omega⟩
    exact ⟨iv, for_end (inext_rng_end (List.drop_eq_nil_iff.mp hd)) rfl⟩
  | cons x sr ih =>
    intro i fuel st iv hd hs hf
    obtain ⟨f, rfl⟩ : ∃ f, fuel = f + 1 := ⟨fuel - 1, by omega⟩
    have hx : sm[i]? = some x := by have := congrArg (·[0]?) hd; simpa using this
    have hlt := (List.getElem?_eq_some_iff.mp hx).1
    have hm : i % cnt < cnt := Nat.mod_lt _ hc0
    obtain ⟨y, hy⟩ : ∃ y, st[i % cnt]? = some y := ⟨_, List.getElem?_eq_getElem (by omega)⟩
    have hyd : st.getD (i % cnt) 0 = y := by rw [List.getD_eq_getElem?_getD, hy]; rfl
    have hd' : sm.drop (i + 1) = sr := by
      have := congrArg (List.drop 1) hd
      simpa [List.drop_drop, Nat.add_comm] using this
    obtain ⟨iv', h⟩ := ih (i + 1) f (st.set (i % cnt) (y ^^^ x)) (some (.int (i : Int))) hd' (by simp [hs]) (by simp at hf; omega)
    have e0 : ((cnt : Int) ≠ 0) = True := eq_true (by omega)
    have e1 : ((i : Int).fmod (cnt : Int)) = ((i % cnt : Nat) : Int) := fmod_nat _ _
    have i1 : ∀ (a1 a2 : AO) R, aitem (.ref (L.length + 2)) (.int ((i % cnt : Nat) : Int)) (L ++ a1 :: a2 :: .list (nts st) :: R) = some (.int (y : Int), L ++ a1 :: a2 :: .list (nts st) :: R) := fun a1 a2 R => aitem_at (xs := nts st) (by rw [getK]; rfl) (nts_get hy) (by omega)
    have i2 : ∀ R, aitem (.ref ksm) (.int (i : Int)) (L ++ R) = some (.int (x : Int), L ++ R) := fun R => aitem_at (app_get hks) (nts_get hx) (by omega)
    have c5 : (0 ≤ ((i % cnt : Nat) : Int) ∧ ((i % cnt : Nat) : Int) < 2 ^ 60 ∧ ((i % cnt : Nat) : Int) < ((nts st).length : Int)) = True := eq_true ⟨by omega, by omega, by rw [nts_len]; omega⟩
    refine ⟨iv', for_next (inext_rng hlt) (st1 := L ++ stS ksm cnt L.length (some (.int (i : Int))) st) (by unfold stS; simp -implicitDefEqProofs only [ev, ↓reduceIte, Nat.reduceAdd, reduceCtorEq]) (st2 := L ++ stS ksm cnt L.length (some (.int (i : Int))) (st.set (i % cnt) (y ^^^ x))) ?_ (h.trans ?_)⟩
    · unfold stIn stS
      refine seqT (st1 := L ++ [.ns nmSt [some (.ref ksm), some (.int (cnt : Int)), some (.ref (L.length + 2)), some (.int (i : Int))], .list [.int 2, .int 1, .int 4, .int 9], .list (nts (st.set (i % cnt) (y ^^^ x)))]) ?_ rfl
      simp -implicitDefEqProofs only [ev, ↓reduceIte, Nat.reduceAdd, reduceCtorEq, e0, e1, i1, i2, bitXor_nat, asetitem, c5, Int.toNat_natCast, nts_set]
    · rw [show stGo cnt (x :: sr) i st = stGo cnt sr (i + 1) (st.set (i % cnt) (y ^^^ x)) by rw [← hyd]; rfl]
theorem steps_run {ksm cnt : Nat} {sm : List Nat} (hks : L[ksm]? = some (.list (nts sm))) (hc0 : 0 < cnt) (hc4 : cnt ≤ 4) (hl : sm.length ≤ 100) :
    ∃ g, g[2]? = some (.list (nts (stepsF sm cnt))) ∧ stepsAct (cOr blts q) ⟨L.length, [], code⟩ (L ++ [.ns nmSt [some (.ref ksm), some (.int (cnt : Int)), none, none]]) = some (.ret (.ref (L.length + 2)), L ++ g) := by
  have htk : (([.int 2, .int 1, .int 4, .int 9] : List AV).take cnt) = nts (([2, 1, 4, 9] : List Nat).take cnt) := by
    unfold nts
    rw [List.map_take]; rfl
  obtain ⟨iv', hloop⟩ := st_loop (L := L) (code := code) hks hc0 hc4 hl sm 0 (sm.length + 1) (([2, 1, 4, 9] : List Nat).take cnt) none rfl (by simp; omega) (by omega)
  have hlen : (nts sm).length ≤ 1000000 := by rw [nts_len]; omega
  have hrb := rng_nat (n := sm.length) (by omega)
  have hlk : ∀ R : St, (L ++ R)[ksm]? = some (.list (nts sm)) := fun R => app_get hks
  have hsl : ∀ (a : AO), aslice (.ref (L.length + 1)) .none (.int (cnt : Int)) (L ++ [a, .list [.int 2, .int 1, .int 4, .int 9]]) = some (.ref (L.length + 2), L ++ [a, .list [.int 2, .int 1, .int 4, .int 9], .list (nts (([2, 1, 4, 9] : List Nat).take cnt))]) := fun a => by
    rw [aslice_to (xs := [.int 2, .int 1, .int 4, .int 9]) (by rw [getK]; rfl) (by simp) (by simp; omega), htk]
    simp
  have z4 : (4 ≤ 1000) = True := by simp
  refine ⟨stS ksm cnt L.length iv' (stepsF sm cnt), rfl, ?_⟩
  unfold stepsAct
  refine seqT (st1 := L ++ stS ksm cnt L.length none (([2, 1, 4, 9] : List Nat).take cnt)) (by unfold stS; simp -implicitDefEqProofs only [ev, ↓reduceIte, Nat.reduceAdd, reduceCtorEq, z4, hsl]) ?_
  refine seqT (st1 := L ++ stS ksm cnt L.length iv' (stepsF sm cnt)) ?_ ?_
  · have hsrc : iCall (bVal (.typ "range")) (lCons (bCall (cOr blts q) (bVal (.blt "len")) (lCons (bLoc nmSt 0) lNil) kNil) lNil) ⟨L.length, [], code⟩ (L ++ stS ksm cnt L.length none (([2, 1, 4, 9] : List Nat).take cnt)) = some (.rng 0 1 sm.length, L ++ stS ksm cnt L.length none (([2, 1, 4, 9] : List Nat).take cnt)) := by
      unfold stS
      simp -implicitDefEqProofs only [ev, ↓reduceIte, Nat.reduceAdd, reduceCtorEq, c_lenL (hlk _) hlen, nts_len, hrb.1, hrb.2]
    unfold xFor
    rw [hsrc, Option.bind_some]
    exact hloop
  unfold stS
  refine seqR ?_
  simp -implicitDefEqProofs only [ev, ↓reduceIte, Nat.reduceAdd, reduceCtorEq]
end
def sumSteps (aS : Addr) : CallF := fun f args kw st => match f, args, kw with
  | .old a, [.ref k, .int n], [] => (listAt st k).bind fun xs => (natsOf xs).bind fun sm => if a = aS ∧ 0 < n ∧ n ≤ 4 ∧ sm.length ≤ 100 then some (.ref st.length, st ++ [.list (nts (stepsF sm n.toNat))]) else .none
  | _, _, _ => .none
def sumWord (aW : Addr) : CallF := fun f args kw st => match f, args, kw with
  | .old a, [.int k, .ref ks], [] => (listAt st ks).bind fun xs => (natsOf xs).bind fun ss => if a = aW ∧ 0 ≤ k ∧ dlen k.toNat 1 ≤ ss.length ∧ ss.length ≤ 100 ∧ ss.all (fun s => decide (s < 16)) = true then some (.str (sx (wordL (heldF ss k.toNat))), st) else .none
  | _, _, _ => .none
theorem sumSteps_at {aS : Addr} {st : St} {k n : Nat} {sm : List Nat} (h : st[k]? = some (.list (nts sm))) (h0 : 0 < n) (h4 : n ≤ 4) (hl : sm.length ≤ 100) : sumSteps aS (.old aS) [.ref k, .int (n : Int)] [] st = some (.ref st.length, st ++ [.list (nts (stepsF sm n))]) := by
  show (listAt st k).bind (fun xs => (natsOf xs).bind fun sm => if aS = aS ∧ 0 < (n : Int) ∧ (n : Int) ≤ 4 ∧ sm.length ≤ 100 then some (AV.ref st.length, st ++ [.list (nts (stepsF sm (n : Int).toNat))]) else .none) = _
  unfold listAt
  rw [h]
  simp only [Option.bind_some, natsOf_nts, Int.toNat_natCast]
  rw [if_pos ⟨trivial, by omega, by omega, hl⟩]
theorem sumWord_at {aW : Addr} {st : St} {k ks : Nat} {ss : List Nat} (h : st[ks]? = some (.list (nts ss))) (hk : dlen k 1 ≤ ss.length) (hl : ss.length ≤ 100) (hs : ∀ s ∈ ss, s < 16) : sumWord aW (.old aW) [.int (k : Int), .ref ks] [] st = some (.str (sx (wordL (heldF ss k))), st) := by
  show (listAt st ks).bind (fun xs => (natsOf xs).bind fun ss => if aW = aW ∧ 0 ≤ (k : Int) ∧ dlen (k : Int).toNat 1 ≤ ss.length ∧ ss.length ≤ 100 ∧ ss.all (fun s => decide (s < 16)) = true then some (AV.str (sx (wordL (heldF ss (k : Int).toNat))), st) else .none) = _
  unfold listAt
  rw [h]
  simp only [Option.bind_some, natsOf_nts, Int.toNat_natCast]
  rw [if_pos ⟨trivial, by omega, hk, hl, by rw [List.all_eq_true]; exact fun s hm => by simpa using hs s hm⟩]
section
variable {prog : Program} {w : World} {mg mb : Str → Option Value} {X : Heap → List TabD → Prop} (S : Sys prog w mg mb X)
theorem steps_told {aS : Addr} (d : Nat) (hp : ∀ c (x y : AV) L, ∃ code, prep S.K (S.R c) 60 aS [x, y] [] L = some (L, [.ns nmSt [some x, some y, none, none]], [], code, stepsAct c)) : S.CC (d + 1) (sumSteps aS) := by
  refine S.told S.none_sound fun f args kw st r h hw => ?_
  unfold sumSteps at h
  split at h
  · rename_i a k n
    obtain ⟨xs, e1, h⟩ := bind2 h
    obtain ⟨sm, e2, h⟩ := bind2 h
    split at h
    · rename_i hc
      cases h
      obtain ⟨rfl, h1, h2, h3⟩ := hc
      obtain ⟨n, rfl⟩ := Int.eq_ofNat_of_zero_le (Int.le_of_lt h1)
      simp only [Int.toNat_natCast]
      have e3 := listAt_some e1
      rw [nts_natsOf e2] at e3
      obtain ⟨code, hp⟩ := hp (cOr blts fun _ _ _ _ => .none) (.ref k) (.int (n : Int)) st
      obtain ⟨g, hg, hr⟩ := steps_run (cnt := n) (q := fun _ _ _ _ => .none) (code := code) e3 (by omega) (by omega) h3
      exact ⟨_, _, (run_prep hp).trans hr, trim1 hw hg (nts_flat _)⟩
    · cases h
  · cases h
theorem word_told {aW aI : Addr} (d : Nat) (hI : S.C d (sumI2d aI)) (hp : ∀ c (x y : AV) L, ∃ code, prep S.K (S.R c) 60 aW [x, y] [] L = some (L, [.ns nmW [some x, some y, none, none, none, none]], [], code, wordAct aI c)) : S.CC (d + 1) (sumWord aW) := by
  refine S.told hI fun f args kw st r h hw => ?_
  unfold sumWord at h
  split at h
  · rename_i a k ks
    obtain ⟨xs, e1, h⟩ := bind2 h
    obtain ⟨ss, e2, h⟩ := bind2 h
    split at h
    · rename_i hc
      cases h
      obtain ⟨rfl, h1, h2, h3, h4⟩ := hc
      obtain ⟨k, rfl⟩ := Int.eq_ofNat_of_zero_le h1
      simp only [Int.toNat_natCast] at h2 ⊢
      have e3 := listAt_some e1
      rw [nts_natsOf e2] at e3
      obtain ⟨code, hp⟩ := hp (cOr blts (sumI2d aI)) (.int (k : Int)) (.ref ks) st
      obtain ⟨g, hr⟩ := word_run (q := sumI2d aI) (code := code) (fun x n st a b c => sumI2d_at a b c) e3 h2 h3 (fun s hm => by simpa using List.all_eq_true.mp h4 s hm)
      exact ⟨_, _, (run_prep hp).trans hr, trim0 hw rfl⟩
    · cases h
  · cases h
theorem price_told {aP : Addr} (d : Nat) (hp : ∀ c (x : AV) L, ∃ code, prep S.K (S.R c) 60 aP [x] [] L = some (L, [.ns nmPr [some x]], [], code, priceAct)) : S.CC (d + 1) (sumPrice aP) := by
  refine S.told S.none_sound fun f args kw st r h hw => ?_
  unfold sumPrice at h
  split at h
  · rename_i a g
    split at h
    · rename_i hc
      cases h
      obtain ⟨rfl, h1, h2⟩ := hc
      obtain ⟨g, rfl⟩ := Int.eq_ofNat_of_zero_le h1
      simp only [Int.toNat_natCast]
      obtain ⟨code, hp⟩ := hp (cOr blts fun _ _ _ _ => .none) (.int (g : Int)) st
      have e0 : ((4 : Int) ≠ 0) = True := by simp
      have e0' : ((4 : Int).natAbs < 1073741824) = True := by simp
      have e1 : (g : Int).fmod 4 = ((g % 4 : Nat) : Int) := fmod_nat g 4
      have e2 : (g : Int).fdiv 4 = ((g / 4 : Nat) : Int) := fdiv_nat g 4
      have i1 : ∀ (a : AO) R, aitem (.ref (st.length + 1)) (.int ((g % 4 : Nat) : Int)) (st ++ a :: .list [.int 0, .int 1, .int 2, .int 2] :: R) = some (.int (pt (g % 4) : Nat), st ++ a :: .list [.int 0, .int 1, .int 2, .int 2] :: R) := fun a R => aitem_at (by rw [getK]; rfl) (pt_get ⟨g % 4, by omega⟩) (by omega)
      have i2 : ∀ (a1 a2 : AO) R, aitem (.ref (st.length + 2)) (.int ((g / 4 : Nat) : Int)) (st ++ a1 :: a2 :: .list [.int 0, .int 1, .int 2, .int 2] :: R) = some (.int (pt (g / 4) : Nat), st ++ a1 :: a2 :: .list [.int 0, .int 1, .int 2, .int 2] :: R) := fun a1 a2 R => aitem_at (by rw [getK]; rfl) (pt_get ⟨g / 4, by omega⟩) (by omega)
      have z4 : (4 ≤ 1000) = True := by simp
      have e3 : ((pt (g % 4) : Nat) : Int) + ((pt (g / 4) : Nat) : Int) = ((priceF g : Nat) : Int) := by unfold priceF; simp
      refine ⟨.ret (.int (priceF g : Nat)), st ++ [.ns nmPr [some (.int (g : Int))], .list [.int 0, .int 1, .int 2, .int 2], .list [.int 0, .int 1, .int 2, .int 2]], (run_prep hp).trans ?_, trim0 hw rfl⟩
      unfold priceAct
      refine seqR ?_
      simp -implicitDefEqProofs only [ev, ↓reduceIte, Nat.reduceAdd, reduceCtorEq, z4, e0, e0', e1, e2, i1, i2, e3]
    · cases h
  · cases h
theorem filled_told {aF aI : Addr} (d : Nat) (hI : S.C d (sumI2d aI)) (hp : ∀ c (x y : AV) L, ∃ code, prep S.K (S.R c) 60 aF [x, y] [] L = some (L, [.ns nmFi [some x, some y]], [], code, filledAct aI c)) : S.CC (d + 1) (sumFilled aF) := by
  refine S.told hI fun f args kw st r h hw => ?_
  unfold sumFilled at h
  split at h
  · rename_i a x c
    split at h
    · rename_i hc
      cases h
      obtain ⟨rfl, h1, h2, h3, h4⟩ := hc
      obtain ⟨x, rfl⟩ := Int.eq_ofNat_of_zero_le h1
      obtain ⟨c, rfl⟩ := Int.eq_ofNat_of_zero_le h2
      simp only [Int.toNat_natCast]
      have hdl : dlen x 4 ≤ 128 := dlen_le (by omega) (by omega)
      have hdg : (digN 16 (dlen x 4) x).length = dlen x 4 := digN_len _ _ _
      obtain ⟨code, hp⟩ := hp (cOr blts (sumI2d aI)) (.int (x : Int)) (.int (c : Int)) st
      have hI2 : ∀ st, sumI2d aI (.old aI) [.int (x : Int), .int 4] [] st = some (.ref st.length, st ++ [.list (nts (digN 16 (dlen x 4) x))]) := fun st => sumI2d_at (n := 4) (by omega) (by omega) hdl
      have hrep : (List.replicate c [AV.int 0]).flatten = nts (List.replicate c 0) := by
        unfold nts
        rw [List.map_replicate]
        clear hp hI2
        induction c with
        | zero => rfl
        | succ c ih => rw [List.replicate_succ, List.flatten_cons, ih (by omega) (by omega), List.replicate_succ]; rfl
      have f3 : ((c : Int) < 2 ^ 62 ∧ -(2 ^ 62) < (c : Int) ∧ (1 : Nat) * c ≤ 1000) = True := eq_true ⟨by omega, by omega, by omega⟩
      have g1 : ∀ (a1 : AO) (xs : List AV) R, (st ++ a1 :: .list xs :: R)[st.length + 1]? = some (.list xs) := fun a1 xs R => by rw [getK]; rfl
      have g2 : ∀ (a1 a2 : AO) (xs : List AV) R, (st ++ a1 :: a2 :: .list xs :: R)[st.length + 2]? = some (.list xs) := fun a1 a2 xs R => by rw [getK]; rfl
      have g3 : ∀ (a1 a2 a3 : AO) (xs : List AV) R, (st ++ a1 :: a2 :: a3 :: .list xs :: R)[st.length + 3]? = some (.list xs) := fun a1 a2 a3 xs R => by rw [getK]; rfl
      have hal : ((nts (digN 16 (dlen x 4) x)).length + (nts (List.replicate c 0)).length ≤ 1000) = True := eq_true (by rw [nts_len, nts_len, hdg, List.length_replicate]; omega)
      have happ : nts (digN 16 (dlen x 4) x) ++ nts (List.replicate c 0) = nts (digN 16 (dlen x 4) x ++ List.replicate c 0) := by rw [nts_app]
      have htk : (nts (digN 16 (dlen x 4) x ++ List.replicate c 0)).take c = nts (digN 16 c x) := by
        unfold nts
        rw [← List.map_take, digN_take 16 (by omega) (lt_dlen (n := 4) (by omega))]
      have hsl : ∀ (a1 a2 a3 a4 : AO), aslice (.ref (st.length + 4)) .none (.int (c : Int)) (st ++ [a1, a2, a3, a4, .list (nts (digN 16 (dlen x 4) x ++ List.replicate c 0))]) = some (.ref (st.length + 5), st ++ [a1, a2, a3, a4, .list (nts (digN 16 (dlen x 4) x ++ List.replicate c 0)), .list (nts (digN 16 c x))]) := fun a1 a2 a3 a4 => by
        rw [aslice_to (xs := nts (digN 16 (dlen x 4) x ++ List.replicate c 0)) (by rw [getK]; rfl) (by rw [nts_len]; simp [hdg]; omega) (by rw [nts_len]; simp), htk]
        simp
      have z1 : (1 ≤ 1000) = True := by simp
      refine ⟨.ret (.ref (st.length + 5)), st ++ [.ns nmFi [some (.int (x : Int)), some (.int (c : Int))], .list (nts (digN 16 (dlen x 4) x)), .list [.int 0], .list (nts (List.replicate c 0)), .list (nts (digN 16 (dlen x 4) x ++ List.replicate c 0)), .list (nts (digN 16 c x))], (run_prep hp).trans ?_, trim1 hw rfl (nts_flat _)⟩
      unfold filledAct
      refine seqR ?_
      simp -implicitDefEqProofs only [ev, ↓reduceIte, Nat.reduceAdd, reduceCtorEq, c_old, hI2, z1, g1, g2, g3, f3, Int.toNat_natCast, hrep, hal, happ, hsl]
    · cases h
  · cases h
end
def nmCo : List Str := ["words", "bound", "table", "word", "barred", "name", "numeral", "colour"]
def coIn (aL : Addr) (c : CallF) (m : MethF) : Act AFlow := (xSeq (xIf (tAnd (tCmp .NotIn (bLoc nmCo 6) (bLoc nmCo 4)) (tAnd (tCmp .LtE (bCall c (bVal (.old aL)) (lCons (bLoc nmCo 5) (lCons (bLoc nmCo 3) (lCons (bLoc nmCo 1) lNil))) kNil) (bLoc nmCo 1)) tTrue)) (xSeq (xExpr (bMeth c m (bLoc nmCo 4) ("append" : Str) (lCons (bLoc nmCo 6) lNil) kNil))
  xPass) xPass)
  xPass)
def coOut (aL : Addr) (loops : Nat) (c : CallF) (m : MethF) : Act AFlow := (xSeq (xAsg (bList lNil) [(gLoc nmCo 4)])
  (xSeq (xFor (iList (bMeth c m (bLoc nmCo 2) ("items" : Str) lNil kNil)) (gTup [(gLoc nmCo 5), (gLoc nmCo 6)]) (coIn aL c m) xPass)
  (xSeq (xAsg (bVal (.int 0)) [(gLoc nmCo 7)])
  (xSeq (xWhile loops (tCmp .In (bCall c (bVal (.typ "str")) (lCons (bLoc nmCo 7) lNil) kNil) (bLoc nmCo 4)) (xSeq (xAug .Add (bLoc nmCo 7) (bVal (.int 1)) (gLoc nmCo 7))
  xPass) xPass)
  (xSeq (xExpr (bMeth c m (bLoc nmCo 2) ("add_header" : Str) (lCons (bLoc nmCo 3) (lCons (bCall c (bVal (.typ "str")) (lCons (bLoc nmCo 7) lNil) kNil) lNil)) kNil))
  xPass)))))
def coAct (aH aL : Addr) (loops : Nat) (c : CallF) (m : MethF) : Act AFlow := (xSeq (xAsg (bCall c (bVal (.old aH)) (lCons (bList lNil) lNil) kNil) [(gLoc nmCo 2)])
  (xSeq (xFor (iList (bLoc nmCo 0)) (gLoc nmCo 3) (coOut aL loops c m) xPass)
  (xSeq (xRet (bLoc nmCo 2))
  xPass)))
def numS (c : Nat) : Str := Str.ofString (toString (c : Int))
theorem numS_inj' : ∀ a b : Fin 18, numS a.val = numS b.val → a = b := by decide +kernel
theorem numS_inj {a b : Nat} (ha : a < 18) (hb : b < 18) (h : numS a = numS b) : a = b := congrArg Fin.val (numS_inj' ⟨a, ha⟩ ⟨b, hb⟩ h)
theorem numS_ok' : ∀ a : Fin 18, okS (numS a.val) = true ∧ (numS a.val).length ≤ 2 := by decide +kernel
theorem numS_ok {a : Nat} (ha : a < 18) : okS (numS a) = true ∧ (numS a).length ≤ 1000 := ⟨(numS_ok' ⟨a, ha⟩).1, Nat.le_trans (numS_ok' ⟨a, ha⟩).2 (by decide)⟩
theorem c_strI {q : CallF} {st : St} {c : Nat} (h : c < 2 ^ 60) : cOr blts q (.typ "str") [.int (c : Int)] [] st = some (.str (numS c), st) := by
  have : cStrI (.typ "str") [.int (c : Int)] [] st = some (.str (numS c), st) := by
    show (if ((c : Int)).natAbs.log2 < 1920 then some (AV.str (Str.ofString (toString (c : Int))), st) else .none) = _
    have h1 : ((c : Int)).natAbs.log2 < 1920 := by
      rw [Int.natAbs_natCast]
      by_cases h0 : c = 0
      · subst h0; decide
      · have := (Nat.log2_lt (k := 60) h0).mpr h
        omega
    rw [if_pos h1]; rfl
  exact cor_l (cor_r rfl (cor_l this))
def barGo (near : List Nat → Bool) : List (List Nat) → List Nat → List Nat → List Nat
  | w :: ws, c :: cs, acc => barGo near ws cs (if c ∉ acc ∧ near w = true then acc ++ [c] else acc)
  | _, _, acc => acc
def mexGo (l : List Nat) : Nat → Nat → Nat
  | 0, c => c
  | f + 1, c => if c ∈ l then mexGo l f (c + 1) else c
def nearF (bound : Int) (w name : List Nat) : Bool := decide (levP scF name w bound ≤ bound)
def colOne (bound : Int) (ws : List (List Nat)) (cs : List Nat) (w : List Nat) : Nat := mexGo (barGo (nearF bound w) ws cs []) cs.length 0
def colGo (bound : Int) : List (List Nat) → List (List Nat) → List Nat → List Nat
  | [], _, cs => cs
  | w :: r, ws, cs => colGo bound r (ws ++ [w]) (cs ++ [colOne bound ws cs w])
def colF (bound : Int) (words : List (List Nat)) : List Nat := colGo bound words [] []
theorem barGo_sub (near : List Nat → Bool) : ∀ ws cs acc, ∀ x ∈ barGo near ws cs acc, x ∈ acc ∨ x ∈ cs
  | [], cs, acc, x, h => .inl h
  | _ :: _, [], acc, x, h => .inl h
  | w :: ws, c :: cs, acc, x, h => by
    unfold barGo at h
    rcases barGo_sub near ws cs _ x h with h | h
    · split at h
      · rcases List.mem_append.mp h with h | h
        · exact .inl h
        · exact .inr (List.mem_cons.mpr (.inl (List.mem_singleton.mp h)))
      · exact .inl h
    · exact .inr (List.mem_cons_of_mem _ h)
theorem barGo_len (near : List Nat → Bool) : ∀ ws cs acc, (barGo near ws cs acc).length ≤ acc.length + cs.length
  | [], cs, acc => by unfold barGo; omega
  | _ :: _, [], acc => by unfold barGo; omega
  | w :: ws, c :: cs, acc => by
    unfold barGo
    refine Nat.le_trans (barGo_len near ws cs _) ?_
    split <;> simp <;> omega
def itemsOf (ws : List (List Nat)) (cs : List Nat) : List (Str × Str) := (ws.zip cs).map fun p => (sx p.1, numS p.2)
section
variable {L : St} {code : Value} {q : CallF} {r0 : MethF} {aL aH aIt aAd C : Addr} {hn : List Str} {co : Option AV}
def coF (wk : Nat) (bound : Int) (tk : Nat) (word bk nm nu co : Option AV) : AO := .ns nmCo [some (.ref wk), some (.int bound), some (.ref tk), word, bk, nm, nu, co]
theorem any_num {l : List Nat} {c : Nat} (hl : ∀ x ∈ l, x < 18) (hc : c < 18) : ((l.map numS).any fun b => decide (b = numS c)) = decide (c ∈ l) := by
  rw [Bool.eq_iff_iff]
  simp only [List.any_eq_true, List.mem_map, decide_eq_true_eq]
  constructor
  · rintro ⟨_, ⟨x, hx, rfl⟩, e⟩
    exact numS_inj (hl x hx) hc e ▸ hx
  · exact fun h => ⟨_, ⟨c, h, rfl⟩, rfl⟩
theorem strsOf_V (l : List Str) : strsOf (strsV l) = some l := strsOf_map l
theorem co_in_loop {wk tk : Nat} {bound : Int} {w : List Nat} {R : St} {ts : List Nat} {ws : List (List Nat)} {cs : List Nat}
    (hL : ∀ (a b : List Nat) (st : St), a.length = 2 → b.length = 2 → q (.old aL) [.str (sx a), .str (sx b), .int bound] [] st = some (.int (levP scF a b bound), st))
    (hw2 : w.length = 2) (hws : ∀ v ∈ ws, v.length = 2) (hcs : ∀ c ∈ cs, c < 18) (hlen : ws.length = cs.length) (hle : cs.length ≤ 20)
    (hts : All2 (fun t (it : Str × Str) => ∀ (nm : List Str) (vs : List (Option AV)) (G : St), (L ++ (.ns nm vs :: (R ++ G)))[t]? = some (.tup [.str it.1, .str it.2])) ts (itemsOf ws cs)) :
    ∀ (wr : List (List Nat)) (cr : List Nat) (i fuel : Nat) (acc : List Nat) (nm nu : Option AV), ws.drop i = wr → cs.drop i = cr → wr.length < fuel → (∀ x ∈ acc, x < 18) → acc.length ≤ i → ∃ nm' nu',
      forGo (.lst (L.length + (R.length + 2))) (gTup [(gLoc nmCo 5), (gLoc nmCo 6)]) (coIn aL (cOr blts q) (mOr mStr r0)) xPass ⟨L.length, [], code⟩ fuel i
        (L ++ (coF wk bound tk (some (.str (sx w))) (some (.ref (L.length + (R.length + 1)))) nm nu co :: (R ++ [.list (strsV (acc.map numS)), .list (ts.map .ref)]))) =
      some (.next, L ++ (coF wk bound tk (some (.str (sx w))) (some (.ref (L.length + (R.length + 1)))) nm' nu' co :: (R ++ [.list (strsV ((barGo (nearF bound w) wr cr acc).map numS)), .list (ts.map .ref)]))) := by
  have htl := hts.length
  have hil : (itemsOf ws cs).length = ws.length := by unfold itemsOf; simp; omega
  have hp : ∀ (F a : AO), (L ++ (F :: (R ++ [a, .list (ts.map .ref)])))[L.length + (R.length + 2)]? = some (.list (ts.map .ref)) := fun F a => by
    rw [getK]
    show (R ++ [a, AO.list (ts.map .ref)])[R.length + 1]? = _
    rw [getK]; rfl
  have hb : ∀ (F a b : AO), (L ++ (F :: (R ++ [a, b])))[L.length + (R.length + 1)]? = some a := fun F a b => by
    rw [getK]
    show (R ++ [a, b])[R.length]? = _
    rw [getA]; rfl
  intro wr
  induction wr with
  | nil =>
    intro cr i fuel acc nm nu hd hc hf ha hai
    obtain ⟨f, rfl⟩ : ∃ f, fuel = f + 1 := ⟨fuel - 1, by omega⟩
    have := List.drop_eq_nil_iff.mp hd
    exact ⟨nm, nu, for_end (by rw [inext_lst (hp _ _), List.getElem?_eq_none (by simp; omega)]) rfl⟩
  | cons v wr ih =>
    intro cr i fuel acc nm nu hd hc hf ha hai
    obtain ⟨f, rfl⟩ : ∃ f, fuel = f + 1 := ⟨fuel - 1, by omega⟩
    have hv : ws[i]? = some v := by have := congrArg (·[0]?) hd; simpa using this
    have hlt := (List.getElem?_eq_some_iff.mp hv).1
    obtain ⟨c, hci⟩ : ∃ c, cs[i]? = some c := ⟨_, List.getElem?_eq_getElem (by omega)⟩
    have hcr : cr = c :: cs.drop (i + 1) := by
      obtain ⟨h1, h2⟩ := List.getElem?_eq_some_iff.mp hci
      rw [← hc, List.drop_eq_getElem_cons h1, h2]
    subst hcr
    have hd' : ws.drop (i + 1) = wr := by
      have := congrArg (List.drop 1) hd
      simpa [List.drop_drop, Nat.add_comm] using this
    have hc18 := hcs c (List.mem_of_getElem? hci)
    have hv2 := hws v (List.mem_of_getElem? hv)
    have hit : (itemsOf ws cs)[i]? = some (sx v, numS c) := by
      unfold itemsOf
      rw [List.getElem?_map, (List.getElem?_zip_eq_some (z := (v, c))).mpr ⟨hv, hci⟩]
      rfl
    obtain ⟨t, ht, htup⟩ := all2_get hts hit
    have htt : ∀ (nm : List Str) (vs : List (Option AV)) (G : St), tupAt (L ++ (.ns nm vs :: (R ++ G))) t = some [.str (sx v), .str (numS c)] := fun nm vs G => by unfold tupAt; rw [htup]
    obtain ⟨nm', nu', h⟩ := ih (cs.drop (i + 1)) (i + 1) f (if c ∉ acc ∧ nearF bound w v = true then acc ++ [c] else acc) (some (.str (sx v))) (some (.str (numS c))) hd' rfl (by simp at hf; omega) (fun x hx => by
      split at hx
      · rcases List.mem_append.mp hx with hx | hx
        · exact ha x hx
        · rw [List.mem_singleton.mp hx]; exact hc18
      · exact ha x hx) (by
      split
      · simp; omega
      · omega)
    have hin : ∀ (F a : AO), inext (.lst (L.length + (R.length + 2))) i (L ++ (F :: (R ++ [a, .list (ts.map .ref)]))) = some (some (.ref t)) := fun F a => by rw [inext_lst (hp _ _), List.getElem?_map, ht]; rfl
    refine ⟨nm', nu', for_next (hin _ _) (st1 := L ++ (coF wk bound tk (some (.str (sx w))) (some (.ref (L.length + (R.length + 1)))) (some (.str (sx v))) (some (.str (numS c))) co :: (R ++ [.list (strsV (acc.map numS)), .list (ts.map .ref)])))
      (by unfold coF; simp -implicitDefEqProofs only [ev, ↓reduceIte, Nat.reduceAdd, reduceCtorEq, htt])
      (st2 := L ++ (coF wk bound tk (some (.str (sx w))) (some (.ref (L.length + (R.length + 1)))) (some (.str (sx v))) (some (.str (numS c))) co :: (R ++ [.list (strsV ((if c ∉ acc ∧ nearF bound w v = true then acc ++ [c] else acc).map numS)), .list (ts.map .ref)]))) ?_ h⟩
    have hla : ∀ (F b : AO), listAt (L ++ (F :: (R ++ [.list (strsV (acc.map numS)), b]))) (L.length + (R.length + 1)) = some (strsV (acc.map numS)) := fun F b => by unfold listAt; rw [hb]
    have hany := any_num ha hc18
    have hL' := hL v w
    unfold coIn coF
    by_cases hm : c ∈ acc
    · have d1 : (!decide (c ∈ acc)) = false := by simp [hm]
      simp -implicitDefEqProofs only [ev, ↓reduceIte, Nat.reduceAdd, reduceCtorEq, hla, strsOf_V, hany, d1, hm, not_true_eq_false]
    · have d1 : (!decide (c ∈ acc)) = true := by simp [hm]
      by_cases hn : levP scF v w bound ≤ bound
      · have d2 : decide (levP scF v w bound ≤ bound) = true := by simpa using hn
        have e1 : strsV ((acc ++ [c]).map numS) = strsV (acc.map numS) ++ [.str (numS c)] := by unfold strsV; simp
        have hcl : (strsV (acc.map numS)).length ≤ 1000000 := by unfold strsV; simp; omega
        simp -implicitDefEqProofs only [ev, ↓reduceIte, Nat.reduceAdd, reduceCtorEq, hla, strsOf_V, hany, d1, c_old, hL' _ hv2 hw2, d2, m_append (hb _ _ _), c_append (hb _ _ _) hcl, hm, not_false_eq_true, nearF, List.map_append]
        unfold strsV
        simp
      · have d2 : decide (levP scF v w bound ≤ bound) = false := by simpa using hn
        simp -implicitDefEqProofs only [ev, ↓reduceIte, Nat.reduceAdd, reduceCtorEq, hla, strsOf_V, hany, d1, c_old, hL' _ hv2 hw2, d2, hm, not_false_eq_true, nearF]
end
theorem mexGo_le (l : List Nat) : ∀ f c, mexGo l f c ≤ c + f
  | 0, c => Nat.le_refl _
  | f + 1, c => by
    unfold mexGo
    split
    · have := mexGo_le l f (c + 1); omega
    · omega
theorem all2_forall {α β ι : Type} {R : ι → α → β → Prop} : ∀ {l : List α} {m : List β}, l.length = m.length → (∀ x, All2 (R x) l m) → All2 (fun a b => ∀ x, R x a b) l m
  | [], [], _, _ => .nil
  | [], _ :: _, h, _ => by simp at h
  | _ :: _, [], h, _ => by simp at h
  | a :: l, b :: m, h, hx => .cons (fun x => by cases hx x with | cons y r => exact y) (all2_forall (by simpa using h) fun x => by cases hx x with | cons y r => exact r)
section
variable {L : St} {code : Value} {q : CallF} {r0 : MethF} {aL aH aIt aAd C : Addr} {hn : List Str} {co : Option AV}
theorem co_while {wk tk : Nat} {bound : Int} {word nm nu : Option AV} {R : St} {b : AO} {l : List Nat} {N : Nat} (hN : N < 17) (hl : ∀ x ∈ l, x < N) :
    ∀ (f c fuel : Nat), c + f = N → f < fuel →
      whileGo (tCmp .In (bCall (cOr blts q) (bVal (.typ "str")) (lCons (bLoc nmCo 7) lNil) kNil) (bLoc nmCo 4)) (xSeq (xAug .Add (bLoc nmCo 7) (bVal (.int 1)) (gLoc nmCo 7)) xPass) xPass ⟨L.length, [], code⟩ fuel
        (L ++ (coF wk bound tk word (some (.ref (L.length + (R.length + 1)))) nm nu (some (.int (c : Int))) :: (R ++ [.list (strsV (l.map numS)), b]))) =
      some (.next, L ++ (coF wk bound tk word (some (.ref (L.length + (R.length + 1)))) nm nu (some (.int (mexGo l f c : Nat))) :: (R ++ [.list (strsV (l.map numS)), b]))) := by
  have hb : ∀ (F a b : AO), (L ++ (F :: (R ++ [a, b])))[L.length + (R.length + 1)]? = some a := fun F a b => by
    rw [getK]
    show (R ++ [a, b])[R.length]? = _
    rw [getA]; rfl
  have hla : ∀ (F b : AO), listAt (L ++ (F :: (R ++ [.list (strsV (l.map numS)), b]))) (L.length + (R.length + 1)) = some (strsV (l.map numS)) := fun F b => by unfold listAt; rw [hb]
  have hl18 : ∀ x ∈ l, x < 18 := fun x hx => by have := hl x hx; omega
  have test : ∀ c : Nat, c < 18 → (tCmp .In (bCall (cOr blts q) (bVal (.typ "str")) (lCons (bLoc nmCo 7) lNil) kNil) (bLoc nmCo 4)) ⟨L.length, [], code⟩ (L ++ (coF wk bound tk word (some (.ref (L.length + (R.length + 1)))) nm nu (some (.int (c : Int))) :: (R ++ [.list (strsV (l.map numS)), b]))) =
      some (decide (c ∈ l), (L ++ (coF wk bound tk word (some (.ref (L.length + (R.length + 1)))) nm nu (some (.int (c : Int))) :: (R ++ [.list (strsV (l.map numS)), b])))) := fun c hc => by
    unfold coF
    simp -implicitDefEqProofs only [ev, ↓reduceIte, Nat.reduceAdd, reduceCtorEq, c_strI (by omega : c < 2 ^ 60), hla, strsOf_V, any_num hl18 hc]
  intro f
  induction f with
  | zero =>
    intro c fuel hc hf
    obtain ⟨g, rfl⟩ : ∃ g, fuel = g + 1 := ⟨fuel - 1, by omega⟩
    have hm : c ∉ l := fun h => by have := hl c h; omega
    have ht := test c (by omega)
    rw [decide_eq_false hm] at ht
    exact while_end ht rfl
  | succ f ih =>
    intro c fuel hc hf
    obtain ⟨g, rfl⟩ : ∃ g, fuel = g + 1 := ⟨fuel - 1, by omega⟩
    have ht := test c (by omega)
    by_cases hm : c ∈ l
    · rw [decide_eq_true hm] at ht
      have := ih (c + 1) g (by omega) (by omega)
      rw [show mexGo l (f + 1) c = mexGo l f (c + 1) by rw [mexGo, if_pos hm]]
      refine while_next ht (st2 := L ++ (coF wk bound tk word (some (.ref (L.length + (R.length + 1)))) nm nu (some (.int ((c + 1 : Nat) : Int))) :: (R ++ [.list (strsV (l.map numS)), b]))) ?_ this
      unfold coF
      simp -implicitDefEqProofs only [ev, ↓reduceIte, Nat.reduceAdd, reduceCtorEq, Int.natCast_add, Int.cast_ofNat_Int]
    · rw [decide_eq_false hm] at ht
      rw [show mexGo l (f + 1) c = c by rw [mexGo, if_neg hm]]
      exact while_end ht rfl
structure Tab (C : Addr) (hn : List Str) (L R : St) (ts : List Nat) (items : List (Str × Str)) : Prop where
  h : ∀ (nm : List Str) (vs : List (Option AV)), HdrAt C hn (L ++ (.ns nm vs :: R)) (L.length + 3) (L.length + 2) (L.length + 1) ts items
  lo : ∀ t ∈ ts, L.length + 3 < t
  hi : ∀ t ∈ ts, t < L.length + (R.length + 1)
  nd : ts.Nodup
theorem Tab.app {R : St} {ts : List Nat} {items : List (Str × Str)} (h : Tab C hn L R ts items) (G : St) : Tab C hn L (R ++ G) ts items :=
  ⟨fun nm vs => by
    have := (h.h nm vs).app G
    rw [List.append_assoc] at this
    exact this, h.lo, fun t ht => by have := h.hi t ht; simp; omega, h.nd⟩
theorem Tab.grow {R : St} {ts : List Nat} {items : List (Str × Str)} (h : Tab C hn L R ts items) (a b : Str) (hR : 3 ≤ R.length) :
    Tab C hn L (R.set 0 (.list (ts.map .ref ++ [.ref (L.length + (R.length + 1))])) ++ [.tup [.str a, .str b]]) (ts ++ [L.length + (R.length + 1)]) (items ++ [(a, b)]) := by
  refine ⟨fun nm vs => ?_, fun t ht => ?_, fun t ht => ?_, ?_⟩
  · have := (h.h nm vs).grow a b
    have e : (L ++ (AO.ns nm vs :: R)).length = L.length + (R.length + 1) := by simp
    rw [e, setK, List.append_assoc] at this
    exact this
  · rcases List.mem_append.mp ht with ht | ht
    · exact h.lo t ht
    · rw [List.mem_singleton.mp ht]; omega
  · rcases List.mem_append.mp ht with ht | ht
    · have := h.hi t ht; simp; omega
    · rw [List.mem_singleton.mp ht]; simp
  · rw [List.nodup_append]
    refine ⟨h.nd, by simp, fun x hx y hy e => ?_⟩
    rw [List.mem_singleton.mp hy] at e
    have := h.hi x hx
    omega
theorem co_one {loops wk : Nat} {bound : Int} {w : List Nat} {R : St} {ts : List Nat} {ws : List (List Nat)} {cs : List Nat} {bk nm nu : Option AV}
    (hL : ∀ (a b : List Nat) (st : St), a.length = 2 → b.length = 2 → q (.old aL) [.str (sx a), .str (sx b), .int bound] [] st = some (.int (levP scF a b bound), st))
    (hIt : ∀ (st : St) (k d l : Nat) (ts : List Nat) (items : List (Str × Str)), HdrAt C hn st k d l ts items → ts.length ≤ 1000 → q (.old aIt) [.ref k] [] st = some (.ref st.length, st ++ [.list (ts.map .ref)]))
    (hAd : ∀ (st : St) (k d l : Nat) (ts : List Nat) (items : List (Str × Str)) (nm v : Str), HdrAt C hn st k d l ts items → ts.length ≤ 1000 → okS nm = true → nm.length ≤ 1000 → okS v = true → v.length ≤ 1000 → q (.old aAd) [.ref k, .str nm, .str v] [] st = some (.none, st.set l (.list (ts.map .ref ++ [.ref st.length])) ++ [.tup [.str nm, .str v]]))
    (hmI : HdrMeth C hn (mOr mStr r0) "items" aIt) (hmA : HdrMeth C hn (mOr mStr r0) "add_header" aAd)
    (hw2 : w.length = 2) (hwo : okS (sx w) = true) (hws : ∀ v ∈ ws, v.length = 2) (hcs : ∀ c ∈ cs, c < cs.length) (hlen : ws.length = cs.length) (hle : cs.length < 17) (hlo : 18 ≤ loops) (hR : 3 ≤ R.length)
    (T : Tab C hn L R ts (itemsOf ws cs)) :
    ∃ R' bk' nm' nu' co', 3 ≤ R'.length ∧ Tab C hn L R' (ts ++ [L.length + (R.length + 3)]) (itemsOf (ws ++ [w]) (cs ++ [colOne bound ws cs w])) ∧
      coOut aL loops (cOr blts q) (mOr mStr r0) ⟨L.length, [], code⟩ (L ++ (coF wk bound (L.length + 3) (some (.str (sx w))) bk nm nu co :: R)) = some (.next, L ++ (coF wk bound (L.length + 3) (some (.str (sx w))) bk' nm' nu' co' :: R')) := by
  have htl := (T.h [] []).t.length
  have hil : (itemsOf ws cs).length = ws.length := by unfold itemsOf; simp; omega
  obtain ⟨bar, hbar⟩ : ∃ bar, bar = barGo (nearF bound w) ws cs [] := ⟨_, rfl⟩
  have hbs : ∀ x ∈ bar, x < cs.length := fun x hx => by
    rw [hbar] at hx
    rcases barGo_sub _ _ _ _ x hx with h | h
    · cases h
    · exact hcs x h
  obtain ⟨col, hcol⟩ : ∃ col, col = colOne bound ws cs w := ⟨_, rfl⟩
  have hcolE : col = mexGo bar cs.length 0 := by rw [hcol, hbar]; rfl
  have hcol18 : col < 18 := by
    have := mexGo_le bar cs.length 0
    omega
  have htup : All2 (fun t (it : Str × Str) => ∀ (nm : List Str) (vs : List (Option AV)) (G : St), (L ++ (.ns nm vs :: (R ++ G)))[t]? = some (.tup [.str it.1, .str it.2])) ts (itemsOf ws cs) :=
    (all2_forall (ι := List Str × List (Option AV) × St) (R := fun x t (it : Str × Str) => (L ++ (.ns x.1 x.2.1 :: (R ++ x.2.2)))[t]? = some (.tup [.str it.1, .str it.2])) htl fun x => ((T.app x.2.2).h x.1 x.2.1).t).mono fun t it h nm vs G => h (nm, vs, G)
  obtain ⟨nm', nu', hin⟩ := co_in_loop (L := L) (code := code) (q := q) (r0 := r0) (aL := aL) (co := co) (wk := wk) (tk := L.length + 3) (bound := bound) (w := w) (R := R) (ts := ts) (ws := ws) (cs := cs) hL hw2 hws (fun c hc => by have := hcs c hc; omega) hlen (by omega) htup ws cs 0 (ws.length + 1) [] nm nu rfl rfl (by omega) (fun x hx => by cases hx) (by simp)
  rw [← hbar] at hin
  have hwh := co_while (L := L) (code := code) (q := q) (wk := wk) (tk := L.length + 3) (bound := bound) (word := some (.str (sx w))) (nm := nm') (nu := nu') (R := R) (b := .list (ts.map .ref)) (l := bar) (N := cs.length) hle hbs cs.length 0 loops (by omega) (by omega)
  rw [← hcolE] at hwh
  have h1 : ∀ (vs : List (Option AV)) (G : St), HdrAt C hn (L ++ (.ns nmCo vs :: (R ++ G))) (L.length + 3) (L.length + 2) (L.length + 1) ts (itemsOf ws cs) := fun vs G => (T.app G).h nmCo vs
  have mI : ∀ (vs : List (Option AV)) (G : St), mOr mStr r0 (.ref (L.length + 3)) ("items" : Str) (L ++ (.ns nmCo vs :: (R ++ G))) = some (.old aIt, [.ref (L.length + 3)]) := fun vs G => hmI _ _ _ _ (h1 vs G).i (h1 vs G).d
  have mA : ∀ (vs : List (Option AV)) (G : St), mOr mStr r0 (.ref (L.length + 3)) ("add_header" : Str) (L ++ (.ns nmCo vs :: (R ++ G))) = some (.old aAd, [.ref (L.length + 3)]) := fun vs G => hmA _ _ _ _ (h1 vs G).i (h1 vs G).d
  have tl1000 : ts.length ≤ 1000 := by omega
  have qI : ∀ (vs : List (Option AV)) (a : AO), q (.old aIt) [.ref (L.length + 3)] [] (L ++ (.ns nmCo vs :: (R ++ [a]))) = some (.ref (L.length + (R.length + 2)), L ++ (.ns nmCo vs :: (R ++ [a, .list (ts.map .ref)]))) := fun vs a => by
    rw [hIt _ _ _ _ _ _ (h1 vs [a]) tl1000]
    simp
  have hno := numS_ok hcol18
  have hwl : (sx w).length ≤ 1000 := by rw [sx_len]; omega
  obtain ⟨R', hR'⟩ : ∃ R' : St, R' = (R ++ [AO.list (strsV (bar.map numS)), .list (ts.map .ref)]).set 0 (.list (ts.map .ref ++ [.ref (L.length + (R.length + 3))])) ++ [.tup [.str (sx w), .str (numS col)]] := ⟨_, rfl⟩
  have qA : ∀ (vs : List (Option AV)), q (.old aAd) [.ref (L.length + 3), .str (sx w), .str (numS col)] [] (L ++ (.ns nmCo vs :: (R ++ [.list (strsV (bar.map numS)), .list (ts.map .ref)]))) = some (.none, L ++ (.ns nmCo vs :: R')) := fun vs => by
    rw [hAd _ _ _ _ _ _ _ _ (h1 vs [_, _]) tl1000 hwo hwl hno.1 hno.2]
    have e : (L ++ (AO.ns nmCo vs :: (R ++ [.list (strsV (bar.map numS)), .list (ts.map .ref)]))).length = L.length + (R.length + 3) := by simp
    rw [e, setK, hR', List.append_assoc, List.set_cons_succ, List.cons_append]
  have hg : Tab C hn L R' (ts ++ [L.length + (R.length + 3)]) (itemsOf (ws ++ [w]) (cs ++ [col])) := by
    have := (T.app [.list (strsV (bar.map numS)), .list (ts.map .ref)]).grow (sx w) (numS col) (by simp; omega)
    have e : L.length + ((R ++ [AO.list (strsV (bar.map numS)), AO.list (ts.map .ref)]).length + 1) = L.length + (R.length + 3) := by simp
    rw [e, ← hR'] at this
    have e2 : itemsOf (ws ++ [w]) (cs ++ [col]) = itemsOf ws cs ++ [(sx w, numS col)] := by
      unfold itemsOf
      rw [List.zip_append hlen, List.map_append]
      rfl
    rw [e2]
    exact this
  refine ⟨R', some (.ref (L.length + (R.length + 1))), nm', nu', some (.int (col : Nat)), by rw [hR']; simp, by rw [← hcol]; exact hg, ?_⟩
  unfold coOut
  have z0 : (0 ≤ 1000) = True := by simp
  refine seqT (st1 := L ++ (coF wk bound (L.length + 3) (some (.str (sx w))) (some (.ref (L.length + (R.length + 1)))) nm nu co :: (R ++ [.list []]))) (by unfold coF; simp -implicitDefEqProofs only [ev, ↓reduceIte, Nat.reduceAdd, reduceCtorEq, z0]) ?_
  refine seqT (st1 := L ++ (coF wk bound (L.length + 3) (some (.str (sx w))) (some (.ref (L.length + (R.length + 1)))) nm' nu' co :: (R ++ [.list (strsV (bar.map numS)), .list (ts.map .ref)]))) ?_ ?_
  · have hp : ∀ (F a : AO), itemsAt (L ++ (F :: (R ++ [a, .list (ts.map .ref)]))) (L.length + (R.length + 2)) = some (ts.map .ref) := fun F a => by
      unfold itemsAt
      rw [getK]
      have : (F :: (R ++ [a, AO.list (ts.map .ref)]))[R.length + 2]? = some (.list (ts.map .ref)) := by
        show (R ++ [a, AO.list (ts.map .ref)])[R.length + 1]? = _
        rw [getK]; rfl
      rw [this]
    have hsz : ∀ (F a : AO), isize (.lst (L.length + (R.length + 2))) (L ++ (F :: (R ++ [a, .list (ts.map .ref)]))) = ws.length := fun F a => by
      unfold isize
      dsimp only
      rw [hp]
      simp; omega
    have hsrc : iList (bMeth (cOr blts q) (mOr mStr r0) (bLoc nmCo 2) ("items" : Str) lNil kNil) ⟨L.length, [], code⟩ (L ++ (coF wk bound (L.length + 3) (some (.str (sx w))) (some (.ref (L.length + (R.length + 1)))) nm nu co :: (R ++ [.list []]))) =
        some (.lst (L.length + (R.length + 2)), L ++ (coF wk bound (L.length + 3) (some (.str (sx w))) (some (.ref (L.length + (R.length + 1)))) nm nu co :: (R ++ [.list [], .list (ts.map .ref)]))) := by
      unfold coF
      simp -implicitDefEqProofs only [ev, ↓reduceIte, Nat.reduceAdd, reduceCtorEq, mI, c_old, qI, hp]
    unfold xFor
    rw [hsrc, Option.bind_some]
    dsimp only
    rw [hsz]
    exact hin
  refine seqT (st1 := L ++ (coF wk bound (L.length + 3) (some (.str (sx w))) (some (.ref (L.length + (R.length + 1)))) nm' nu' (some (.int ((0 : Nat) : Int))) :: (R ++ [.list (strsV (bar.map numS)), .list (ts.map .ref)]))) (by unfold coF; simp -implicitDefEqProofs only [ev, ↓reduceIte, Nat.reduceAdd, reduceCtorEq, Int.ofNat_zero, Int.cast_ofNat_Int]) ?_
  refine seqT hwh ?_
  refine seqT (st1 := L ++ (coF wk bound (L.length + 3) (some (.str (sx w))) (some (.ref (L.length + (R.length + 1)))) nm' nu' (some (.int (col : Nat))) :: R')) ?_ rfl
  unfold coF
  simp -implicitDefEqProofs only [ev, ↓reduceIte, Nat.reduceAdd, reduceCtorEq, mA, c_strI (by omega : col < 2 ^ 60), c_old, qA]
theorem barGo_col {bound : Int} {ws : List (List Nat)} {cs : List Nat} {w : List Nat} : colOne bound ws cs w ≤ cs.length := by
  have := mexGo_le (barGo (nearF bound w) ws cs []) cs.length 0
  unfold colOne
  omega
theorem co_loop {loops wk : Nat} {bound : Int} {words : List (List Nat)}
    (hL : ∀ (a b : List Nat) (st : St), a.length = 2 → b.length = 2 → q (.old aL) [.str (sx a), .str (sx b), .int bound] [] st = some (.int (levP scF a b bound), st))
    (hIt : ∀ (st : St) (k d l : Nat) (ts : List Nat) (items : List (Str × Str)), HdrAt C hn st k d l ts items → ts.length ≤ 1000 → q (.old aIt) [.ref k] [] st = some (.ref st.length, st ++ [.list (ts.map .ref)]))
    (hAd : ∀ (st : St) (k d l : Nat) (ts : List Nat) (items : List (Str × Str)) (nm v : Str), HdrAt C hn st k d l ts items → ts.length ≤ 1000 → okS nm = true → nm.length ≤ 1000 → okS v = true → v.length ≤ 1000 → q (.old aAd) [.ref k, .str nm, .str v] [] st = some (.none, st.set l (.list (ts.map .ref ++ [.ref st.length])) ++ [.tup [.str nm, .str v]]))
    (hmI : HdrMeth C hn (mOr mStr r0) "items" aIt) (hmA : HdrMeth C hn (mOr mStr r0) "add_header" aAd)
    (hwk : L[wk]? = some (.list (strsV (words.map sx)))) (hw2 : ∀ w ∈ words, w.length = 2) (hwo : ∀ w ∈ words, okS (sx w) = true) (hwl : words.length ≤ 16) (hlo : 18 ≤ loops) :
    ∀ (wr : List (List Nat)) (i fuel : Nat) (R : St) (ts : List Nat) (ws : List (List Nat)) (cs : List Nat) (word bk nm nu co : Option AV), words.drop i = wr → words.take i = ws → wr.length < fuel → cs.length = ws.length → (∀ c ∈ cs, c < cs.length) → 3 ≤ R.length → Tab C hn L R ts (itemsOf ws cs) →
      ∃ R' ts' word' bk' nm' nu' co', 3 ≤ R'.length ∧ Tab C hn L R' ts' (itemsOf words (colGo bound wr ws cs)) ∧
        forGo (.lst wk) (gLoc nmCo 3) (coOut aL loops (cOr blts q) (mOr mStr r0)) xPass ⟨L.length, [], code⟩ fuel i (L ++ (coF wk bound (L.length + 3) word bk nm nu co :: R)) = some (.next, L ++ (coF wk bound (L.length + 3) word' bk' nm' nu' co' :: R')) := by
  intro wr
  induction wr with
  | nil =>
    intro i fuel R ts ws cs word bk nm nu co hd ht hf hcl hcs hR T
    obtain ⟨f, rfl⟩ : ∃ f, fuel = f + 1 := ⟨fuel - 1, by omega⟩
    have hle := List.drop_eq_nil_iff.mp hd
    have hws : ws = words := by rw [← ht, List.take_of_length_le hle]
    subst hws
    refine ⟨R, ts, word, bk, nm, nu, co, hR, T, for_end ?_ rfl⟩
    rw [inext_lst (app_get hwk), List.getElem?_eq_none (by unfold strsV; simp; omega)]
  | cons w wr ih =>
    intro i fuel R ts ws cs word bk nm nu co hd ht hf hcl hcs hR T
    obtain ⟨f, rfl⟩ : ∃ f, fuel = f + 1 := ⟨fuel - 1, by omega⟩
    have hw : words[i]? = some w := by have := congrArg (·[0]?) hd; simpa using this
    have hlt := (List.getElem?_eq_some_iff.mp hw).1
    have hd' : words.drop (i + 1) = wr := by
      have := congrArg (List.drop 1) hd
      simpa [List.drop_drop, Nat.add_comm] using this
    have ht' : words.take (i + 1) = ws ++ [w] := by
      rw [List.take_add_one, ht, hw]; rfl
    have hwsl : ws.length = i := by rw [← ht]; simp; omega
    have hmem := List.mem_of_getElem? hw
    obtain ⟨R1, bk1, nm1, nu1, co1, hR1, T1, h1⟩ := co_one (L := L) (code := code) (q := q) (r0 := r0) (aL := aL) (aIt := aIt) (aAd := aAd) (C := C) (hn := hn) (co := co) (loops := loops) (wk := wk) (bound := bound) (w := w) (R := R) (ts := ts) (ws := ws) (cs := cs) (bk := bk) (nm := nm) (nu := nu)
      hL hIt hAd hmI hmA (hw2 w hmem) (hwo w hmem) (fun v hv => hw2 v (by rw [← ht] at hv; exact List.mem_of_mem_take hv)) hcs hcl.symm (by omega) hlo hR T
    obtain ⟨R', ts', word', bk', nm', nu', co', hR', T', h'⟩ := ih (i + 1) f R1 _ (ws ++ [w]) (cs ++ [colOne bound ws cs w]) (some (.str (sx w))) bk1 nm1 nu1 co1 hd' ht' (by simp at hf; omega) (by simp; omega) (fun c hc => by
      rcases List.mem_append.mp hc with hc | hc
      · have := hcs c hc; simp; omega
      · rw [List.mem_singleton.mp hc]
        have := barGo_col (bound := bound) (ws := ws) (cs := cs) (w := w)
        simp; omega) hR1 T1
    refine ⟨R', ts', word', bk', nm', nu', co', hR', T', for_next (x := .str (sx w)) ?_ (st1 := L ++ (coF wk bound (L.length + 3) (some (.str (sx w))) bk nm nu co :: R)) ?_ h1 h'⟩
    · rw [inext_lst (app_get hwk)]
      unfold strsV
      rw [List.getElem?_map, List.getElem?_map, hw]
      rfl
    · unfold coF
      simp -implicitDefEqProofs only [ev, ↓reduceIte, Nat.reduceAdd, reduceCtorEq]
end
def tabOf (C : Addr) (hn : List Str) (n : Nat) (items : List (Str × Str)) : St := .list ((List.range items.length).map fun i => .ref (n + 3 + i)) :: hns hn n :: .inst C (n + 1) :: items.map (fun p => .tup [.str p.1, .str p.2])
theorem getK' (M R : St) (i : Nat) : (M ++ R)[M.length + i]? = R[i]? := getK i
theorem tabOf_hdr (C : Addr) (hn : List Str) (L : St) (items : List (Str × Str)) : HdrAt C hn (L ++ tabOf C hn L.length items) (L.length + 2) (L.length + 1) L.length ((List.range items.length).map fun i => L.length + 3 + i) items := by
  refine ⟨by rw [getK]; rfl, by rw [getK]; rfl, ?_, ?_⟩
  · rw [getA]
    unfold tabOf
    simp
  · have key : ∀ (items : List (Str × Str)) (k : Nat) (M : St), M.length = k → All2 (fun t (it : Str × Str) => (M ++ items.map (fun p : Str × Str => AO.tup [.str p.1, .str p.2]))[t]? = some (.tup [.str it.1, .str it.2])) ((List.range items.length).map fun i => k + i) items := by
      intro items
      induction items with
      | nil => intro k M h; exact .nil
      | cons p items ih =>
        intro k M h
        have e : (List.range (p :: items).length).map (fun i => k + i) = k :: (List.range items.length).map fun i => k + 1 + i := by
          rw [List.length_cons, List.range_succ_eq_map, List.map_cons, List.map_map]
          refine congrArg (k :: ·) (congrArg (fun f => List.map f (List.range items.length)) ?_)
          funext i; simp only [Function.comp]; omega
        rw [e]
        refine .cons ?_ ?_
        · rw [← h]; exact (getK' M _ 0).trans rfl
        · have := ih (k + 1) (M ++ [.tup [.str p.1, .str p.2]]) (by simp [h])
          rw [List.append_assoc] at this
          exact this
    have := key items (L.length + 3) (L ++ [.list ((List.range items.length).map fun i => .ref (L.length + 3 + i)), hns hn L.length, .inst C (L.length + 1)]) (by simp)
    rw [List.append_assoc] at this
    exact this
theorem map_range_get {ts : List Nat} (d : Nat → Nat) : (List.range ts.length).map (fun i => (ts[i]?).getD (d i)) = ts := by
  apply List.ext_getElem (by simp)
  intro i h1 h2
  simp at h1
  simp [h1]
theorem trimTab {C : Addr} {hn : List Str} {st R : St} {vs : List (Option AV)} {nm : List Str} {ts : List Nat} {items : List (Str × Str)} (hw : WF st) (hR : 3 ≤ R.length) (T : Tab C hn st R ts items) :
    Trim st (st ++ (.ns nm vs :: R)) (.ref (st.length + 3)) (.ref (st.length + 2), st ++ tabOf C hn st.length items) := by
  have h := T.h nm vs
  have hl := h.t.length
  have hN : (st ++ (AO.ns nm vs :: R)).length = st.length + (R.length + 1) := by simp
  have f0 : ∀ k, k < st.length → fj st.length ([st.length + 1, st.length + 2, st.length + 3] ++ ts) (st ++ (AO.ns nm vs :: R)).length k = k := fun k hk => if_pos hk
  have f1 : ∀ i x, ([st.length + 1, st.length + 2, st.length + 3] ++ ts)[i]? = some x → fj st.length ([st.length + 1, st.length + 2, st.length + 3] ++ ts) (st ++ (AO.ns nm vs :: R)).length (st.length + i) = x := fun i x hx => by
    unfold fj
    rw [if_neg (by omega), Nat.add_sub_cancel_left, hx]
    rfl
  refine ⟨[st.length + 1, st.length + 2, st.length + 3] ++ ts, ?_, fun j hj => ?_, ?_, by rw [hN]; omega, fun j ao2 hj => ?_, ?_⟩
  · rw [List.nodup_append]
    refine ⟨by simp, T.nd, fun x hx y hy e => ?_⟩
    have := T.lo y hy
    simp at hx
    omega
  · rw [hN]
    rcases List.mem_append.mp hj with hj | hj
    · simp at hj; omega
    · have := T.lo j hj
      have := T.hi j hj
      omega
  · unfold tabOf
    simp; omega
  · by_cases hk : j < st.length
    · rw [List.getElem?_append_left hk] at hj
      exact .inr ⟨hk, by rw [List.getElem?_append_left hk]; exact hj, hw j ao2 hj⟩
    · left
      obtain ⟨i, rfl⟩ : ∃ i, j = st.length + i := ⟨j - st.length, by omega⟩
      rw [getK] at hj
      match i, hj with
      | 0, hj =>
        cases hj
        rw [f1 0 _ rfl, h.l]
        congr 1
        refine congrArg AO.list ?_
        rw [List.map_map, ← hl]
        have : (AV.ren (fj st.length ([st.length + 1, st.length + 2, st.length + 3] ++ ts) (st ++ (AO.ns nm vs :: R)).length) ∘ fun i => AV.ref (st.length + 3 + i)) = fun i => AV.ref ((ts[i]?).getD (fj st.length ([st.length + 1, st.length + 2, st.length + 3] ++ ts) (st ++ (AO.ns nm vs :: R)).length (st.length + 3 + i))) := by
          funext i
          show AV.ref (fj _ _ _ (st.length + 3 + i)) = _
          cases hi : ts[i]? with
          | none => rfl
          | some x =>
            have := f1 (3 + i) x (by rw [List.getElem?_append_right (by simp)]; simpa [Nat.add_comm] using hi)
            rw [show st.length + 3 + i = st.length + (3 + i) by omega, this]
            rfl
        rw [this]
        have := congrArg (List.map AV.ref) (map_range_get (ts := ts) (fun i => fj st.length ([st.length + 1, st.length + 2, st.length + 3] ++ ts) (st ++ (AO.ns nm vs :: R)).length (st.length + 3 + i)))
        rw [List.map_map] at this
        exact this.symm
      | 1, hj =>
        cases hj
        rw [f1 1 _ rfl, h.d]
        have e : fj st.length ([st.length + 1, st.length + 2, st.length + 3] ++ ts) (st ++ (AO.ns nm vs :: R)).length st.length = st.length + 1 := f1 0 _ rfl
        refine congrArg some ?_
        show AO.ns hn (some (AV.ref (st.length + 1)) :: List.replicate (hn.length - 1) none) = AO.ns hn (some (AV.ref (fj _ _ _ st.length)) :: (List.replicate (hn.length - 1) (none : Option AV)).map _)
        rw [e, List.map_replicate]
        rfl
      | 2, hj =>
        cases hj
        rw [f1 2 _ rfl, h.i]
        show _ = some (AO.inst C (fj _ _ _ (st.length + 1)))
        rw [f1 1 _ rfl]
      | i + 3, hj =>
        have hj' : (items.map (fun p : Str × Str => AO.tup [.str p.1, .str p.2]))[i]? = some ao2 := hj
        rw [List.getElem?_map] at hj'
        obtain ⟨p, hp, rfl⟩ := Option.map_eq_some_iff.mp hj'
        obtain ⟨t, ht, htup⟩ := all2_get h.t hp
        rw [f1 (i + 3) t (by rw [List.getElem?_append_right (by simp)]; simpa using ht), htup]
        rfl
  · show AV.ref _ = AV.ref _
    rw [f1 2 _ rfl]
theorem strsV_inj {a b : List Str} (h : strsV a = strsV b) : a = b := by
  unfold strsV at h
  exact List.map_inj_right (fun x y e => by simpa using e) |>.mp h
theorem sxs_inj {a b : List (List Nat)} (h : strsV (a.map sx) = strsV (b.map sx)) : a = b :=
  List.map_inj_right (fun x y e => sx_inj.mp e) |>.mp (strsV_inj h)
def RCol (C : Addr) (hn : List Str) (aF : Addr) : AV → List AV → List (Str × AV) → St → AV × St → Prop := fun f args kw st r =>
  ∃ (wk : Nat) (bound : Int) (words : List (List Nat)), f = .old aF ∧ args = [.ref wk, .int bound] ∧ kw = [] ∧ st[wk]? = some (.list (strsV (words.map sx))) ∧ ((∀ w ∈ words, w.length = 2) ∧ (∀ w ∈ words, okS (sx w) = true) ∧ words.length ≤ 16) ∧
    r = (.ref (st.length + 2), st ++ tabOf C hn st.length (itemsOf words (colF bound words)))
theorem RCol_at {C : Addr} {hn : List Str} {aF : Addr} {st : St} {wk : Nat} {bound : Int} {words : List (List Nat)} (h : st[wk]? = some (.list (strsV (words.map sx)))) (h1 : ∀ w ∈ words, w.length = 2) (h2 : ∀ w ∈ words, okS (sx w) = true) (h3 : words.length ≤ 16) :
    cRel (RCol C hn aF) (.old aF) [.ref wk, .int bound] [] st = some (.ref (st.length + 2), st ++ tabOf C hn st.length (itemsOf words (colF bound words))) :=
  cRel_of ⟨wk, bound, words, rfl, rfl, rfl, h, ⟨h1, h2, h3⟩, rfl⟩ fun r' ⟨wk', bound', words', _, e, _, h', _, hr⟩ => by
    cases e
    rw [h] at h'
    have : words = words' := sxs_inj (by simpa using h')
    subst this
    exact hr
theorem col_run {L : St} {code : Value} {q : CallF} {r0 : MethF} {aL aH aIt aAd C : Addr} {hn : List Str} {loops wk : Nat} {bound : Int} {words : List (List Nat)}
    (hL : ∀ (a b : List Nat) (st : St), a.length = 2 → b.length = 2 → q (.old aL) [.str (sx a), .str (sx b), .int bound] [] st = some (.int (levP scF a b bound), st))
    (hIt : ∀ (st : St) (k d l : Nat) (ts : List Nat) (items : List (Str × Str)), HdrAt C hn st k d l ts items → ts.length ≤ 1000 → q (.old aIt) [.ref k] [] st = some (.ref st.length, st ++ [.list (ts.map .ref)]))
    (hAd : ∀ (st : St) (k d l : Nat) (ts : List Nat) (items : List (Str × Str)) (nm v : Str), HdrAt C hn st k d l ts items → ts.length ≤ 1000 → okS nm = true → nm.length ≤ 1000 → okS v = true → v.length ≤ 1000 → q (.old aAd) [.ref k, .str nm, .str v] [] st = some (.none, st.set l (.list (ts.map .ref ++ [.ref st.length])) ++ [.tup [.str nm, .str v]]))
    (hMk : ∀ (st : St) (l : Nat), st[l]? = some (.list []) → q (.old aH) [.ref l] [] st = some (.ref (st.length + 1), st ++ [hns hn l, .inst C st.length]))
    (hmI : HdrMeth C hn (mOr mStr r0) "items" aIt) (hmA : HdrMeth C hn (mOr mStr r0) "add_header" aAd)
    (hwk : L[wk]? = some (.list (strsV (words.map sx)))) (hw2 : ∀ w ∈ words, w.length = 2) (hwo : ∀ w ∈ words, okS (sx w) = true) (hwl : words.length ≤ 16) (hlo : 18 ≤ loops) :
    ∃ vs R ts, 3 ≤ R.length ∧ Tab C hn L R ts (itemsOf words (colF bound words)) ∧
      coAct aH aL loops (cOr blts q) (mOr mStr r0) ⟨L.length, [], code⟩ (L ++ [.ns nmCo [some (.ref wk), some (.int bound), none, none, none, none, none, none]]) = some (.ret (.ref (L.length + 3)), L ++ (.ns nmCo vs :: R)) := by
  have T0 : Tab C hn L [.list [], hns hn (L.length + 1), .inst C (L.length + 2)] [] (itemsOf [] []) :=
    ⟨fun nm vs => ⟨by rw [getK]; rfl, by rw [getK]; rfl, by rw [getK]; rfl, .nil⟩, fun t ht => absurd ht (List.not_mem_nil), fun t ht => absurd ht (List.not_mem_nil), List.nodup_nil⟩
  obtain ⟨R', ts', word', bk', nm', nu', co', hR', T', h'⟩ := co_loop (L := L) (code := code) (q := q) (r0 := r0) (aL := aL) (aIt := aIt) (aAd := aAd) (C := C) (hn := hn) (loops := loops) (wk := wk) (bound := bound) (words := words) hL hIt hAd hmI hmA hwk hw2 hwo hwl hlo words 0 (words.length + 1) [.list [], hns hn (L.length + 1), .inst C (L.length + 2)] [] [] [] none none none none none rfl rfl (by omega) rfl (fun c hc => by cases hc) (by simp) T0
  refine ⟨[some (.ref wk), some (.int bound), some (.ref (L.length + 3)), word', bk', nm', nu', co'], R', ts', hR', T', ?_⟩
  unfold coAct
  have z0 : (0 ≤ 1000) = True := by simp
  have hM : ∀ (a : AO), q (.old aH) [.ref (L.length + 1)] [] (L ++ [a, .list []]) = some (.ref (L.length + 3), L ++ [a, .list [], hns hn (L.length + 1), .inst C (L.length + 2)]) := fun a => by
    rw [hMk _ _ (by rw [getK]; rfl)]
    simp
  refine seqT (st1 := L ++ (coF wk bound (L.length + 3) none none none none none :: [.list [], hns hn (L.length + 1), .inst C (L.length + 2)])) (by unfold coF; simp -implicitDefEqProofs only [ev, ↓reduceIte, Nat.reduceAdd, reduceCtorEq, z0, c_old, hM]) ?_
  refine seqT (st1 := L ++ (coF wk bound (L.length + 3) word' bk' nm' nu' co' :: R')) ?_ ?_
  · have hit : ∀ R : St, itemsAt (L ++ R) wk = some (strsV (words.map sx)) := fun R => by unfold itemsAt; rw [app_get hwk]
    have hsrc : iList (bLoc nmCo 0) ⟨L.length, [], code⟩ (L ++ (coF wk bound (L.length + 3) none none none none none :: [.list [], hns hn (L.length + 1), .inst C (L.length + 2)])) = some (.lst wk, L ++ (coF wk bound (L.length + 3) none none none none none :: [.list [], hns hn (L.length + 1), .inst C (L.length + 2)])) := by
      unfold coF
      simp -implicitDefEqProofs only [ev, ↓reduceIte, Nat.reduceAdd, reduceCtorEq, hit]
    have hsz : isize (.lst wk) (L ++ (coF wk bound (L.length + 3) none none none none none :: [.list [], hns hn (L.length + 1), .inst C (L.length + 2)])) = words.length := by
      unfold isize
      dsimp only
      rw [hit]
      unfold strsV
      simp
    unfold xFor
    rw [hsrc, Option.bind_some]
    dsimp only
    rw [hsz]
    exact h'
  · refine seqR ?_
    unfold coF
    simp -implicitDefEqProofs only [ev, ↓reduceIte, Nat.reduceAdd, reduceCtorEq]
section
variable {prog : Program} {w : World} {mg mb : Str → Option Value} {X : Heap → List TabD → Prop} (S : Sys prog w mg mb X) {C : Addr} {hn : List Str}
theorem sumLev_at {aL : Addr} {a b : List Nat} {m : Int} {st : St} (h1 : a.length ≤ b.length) (h2 : b.length ≤ 8) : sumLev aL (.old aL) [.str (sx a), .str (sx b), .int m] [] st = some (.int (levP scF a b m), st) := by
  show (if aL = aL ∧ (sx a).length ≤ (sx b).length ∧ (sx b).length ≤ 8 then some (AV.int (levP scF (sx a).cps.toList (sx b).cps.toList m), st) else .none) = _
  rw [if_pos ⟨rfl, by rw [sx_len, sx_len]; exact h1, by rw [sx_len]; exact h2⟩]
  unfold sx
  simp
theorem sumLev_no {aL a : Addr} {args : List AV} {kw : List (Str × AV)} {st : St} (h : a ≠ aL) : sumLev aL (.old a) args kw st = none := by
  unfold sumLev
  split
  · rename_i a1 a2 a3 a4 e
    injection e with e
    rw [if_neg (fun hh => h (e.trans hh.1))]
  · rfl
theorem col_told {aF aH aL aIt aAd fI : Addr} {r0 : MethF} (d : Nat) (hm0 : S.m = mOr mStr r0) (hmI : HdrMeth C hn S.m "items" aIt) (hmA : HdrMeth C hn S.m "add_header" aAd) (hlo : 18 ≤ S.loops) (hmk : makeIn S.K aH = some fI) (hCe : aH = C)
    (hL : S.C d (sumLev aL)) (hIt : S.C d (cRel (RItems C hn aIt))) (hAd : S.C d (cRel (RAdd C hn aAd))) (hMk : S.C d (cMake S.K (cRel (RInit C hn fI)))) (hne : makeIn S.K aL = none ∧ makeIn S.K aIt = none ∧ makeIn S.K aAd = none) (hd : aL ≠ aIt ∧ aL ≠ aAd ∧ aIt ≠ aAd)
    (hp : ∀ c (x y : AV) L, ∃ code, prep S.K (S.R c) 60 aF [x, y] [] L = some (L, [.ns nmCo [some x, some y, none, none, none, none, none, none]], [], code, coAct aH aL S.loops c S.m)) : S.CC (d + 1) (cRel (RCol C hn aF)) := by
  subst hCe
  refine S.told (sound_cor hMk (sound_cor hL (sound_cor hIt hAd))) fun f args kw st r h hw => ?_
  obtain ⟨wk, bound, words, rfl, rfl, rfl, h1, ⟨h2, h3, h4⟩, rfl⟩ := cRel_some h
  obtain ⟨code, hp⟩ := hp (cOr blts (cOr (cMake S.K (cRel (RInit aH hn fI))) (cOr (sumLev aL) (cOr (cRel (RItems aH hn aIt)) (cRel (RAdd aH hn aAd)))))) (.ref wk) (.int bound) st
  rw [hm0] at hmI hmA hp
  have nomk : ∀ (a : Addr) args kw st, makeIn S.K a = none → cMake S.K (cRel (RInit aH hn fI)) (.old a) args kw st = none := fun a args kw st e => by
    unfold cMake
    dsimp only
    rw [e]; rfl
  have noItems : ∀ (args : List AV) kw st, cRel (RItems aH hn aIt) (.old aAd) args kw st = none := fun args kw st => by
    unfold cRel
    rw [dif_neg]
    rintro ⟨r, k, d, l, ts, items, e, _⟩
    cases e
    exact hd.2.2 rfl
  have noLevI : ∀ (args : List AV) kw st, sumLev aL (.old aIt) args kw st = none := fun args kw st => by
    exact sumLev_no (fun h => hd.1 h.symm)
  have noLevA : ∀ (args : List AV) kw st, sumLev aL (.old aAd) args kw st = none := fun args kw st => by
    exact sumLev_no (fun h => hd.2.1 h.symm)
  obtain ⟨vs, R, ts, hR, T, hr⟩ := col_run (code := code) (r0 := r0) (aL := aL) (aH := aH) (aIt := aIt) (aAd := aAd) (C := aH) (hn := hn) (loops := S.loops) (q := cOr (cMake S.K (cRel (RInit aH hn fI))) (cOr (sumLev aL) (cOr (cRel (RItems aH hn aIt)) (cRel (RAdd aH hn aAd)))))
    (fun a b st e1 e2 => cor_r (nomk _ _ _ _ hne.1) (cor_l (sumLev_at (by omega) (by omega))))
    (fun st k d l ts items e1 e2 => cor_r (nomk _ _ _ _ hne.2.1) (cor_r (noLevI _ _ _) (cor_l (RItems_at e1 e2))))
    (fun st k d l ts items nm v e1 e2 e3 e4 e5 e6 => cor_r (nomk _ _ _ _ hne.2.2) (cor_r (noLevA _ _ _) (cor_r (noItems _ _ _) (RAdd_at e1 e2 e3 e4 e5 e6))))
    (fun st l e => cor_l (make_at S hmk e)) hmI hmA h1 h2 h3 h4 hlo
  exact ⟨_, _, (run_prep hp).trans hr, trimTab hw hR T⟩
end
section
variable {M : St} {it : It} {tst : List (Act Bool)} {e : Act AV} {cs : List Nat} {code : Value} {n0 n1 : Str} {xs : List AV} {f : AV → Option AV}
theorem gLoc_comp {acc : List AV} {a : Option AV} {x : AV} : gLoc [n0, n1] 1 x ⟨M.length + 1, cs, code⟩ (M ++ [.list acc, .ns [n0, n1] [.none, a]]) = some (M ++ [.list acc, .ns [n0, n1] [.none, some x]]) := by simp -implicitDefEqProofs only [ev, ↓reduceIte, Nat.reduceAdd, reduceCtorEq]
theorem comp_gen (hin : ∀ i R, inext it i (M ++ R) = some xs[i]?) (hl : xs.length ≤ 1000000)
    (hno : ∀ x acc, x ∈ xs → f x = none → testsGo tst ⟨M.length + 1, cs, code⟩ (M ++ [.list acc, .ns [n0, n1] [.none, some x]]) = some (false, M ++ [.list acc, .ns [n0, n1] [.none, some x]]))
    (hyes : ∀ x y acc, x ∈ xs → f x = some y → testsGo tst ⟨M.length + 1, cs, code⟩ (M ++ [.list acc, .ns [n0, n1] [.none, some x]]) = some (true, M ++ [.list acc, .ns [n0, n1] [.none, some x]]) ∧ e ⟨M.length + 1, cs, code⟩ (M ++ [.list acc, .ns [n0, n1] [.none, some x]]) = some (y, M ++ [.list acc, .ns [n0, n1] [.none, some x]])) :
    ∀ (rest : List AV) (i fuel : Nat) (acc : List AV) (a : Option AV), xs.drop i = rest → rest.length < fuel → acc.length ≤ i → ∃ a',
      compLp it (gLoc [n0, n1] 1) tst (emitApp e M.length) ⟨M.length + 1, cs, code⟩ fuel i (M ++ [.list acc, .ns [n0, n1] [.none, a]]) = some (M ++ [.list (acc ++ rest.filterMap f), .ns [n0, n1] [.none, a']]) := by
  intro rest
  induction rest with
  | nil =>
    intro i fuel acc a hd hf ha
    obtain ⟨k, rfl⟩ : ∃ k, fuel = k + 1 := ⟨fuel - 1, by omega⟩
    refine ⟨a, (comp_end ?_).trans (by simp)⟩
    rw [hin, List.getElem?_eq_none (List.drop_eq_nil_iff.mp hd)]
  | cons x rest ih =>
    intro i fuel acc a hd hf ha
    obtain ⟨k, rfl⟩ : ∃ k, fuel = k + 1 := ⟨fuel - 1, by omega⟩
    have hx : xs[i]? = some x := by have := congrArg (·[0]?) hd; simpa using this
    have hlt := (List.getElem?_eq_some_iff.mp hx).1
    have hm := List.mem_of_getElem? hx
    have hd' : xs.drop (i + 1) = rest := by
      have := congrArg (List.drop 1) hd
      simpa [List.drop_drop, Nat.add_comm] using this
    have hi : inext it i (M ++ [.list acc, .ns [n0, n1] [.none, a]]) = some (some x) := by rw [hin, hx]
    cases hfx : f x with
    | none =>
      obtain ⟨a', ha'⟩ := ih (i + 1) k acc (some x) hd' (by simp at hf; omega) (by omega)
      refine ⟨a', (comp_skip hi gLoc_comp (hno x acc hm hfx) ha').trans (by simp [hfx])⟩
    | some y =>
      obtain ⟨a', ha'⟩ := ih (i + 1) k (acc ++ [y]) (some x) hd' (by simp at hf; omega) (by simp; omega)
      obtain ⟨h1, h2⟩ := hyes x y acc hm hfx
      refine ⟨a', (comp_next (st3 := M ++ [.list (acc ++ [y]), .ns [n0, n1] [.none, some x]]) hi gLoc_comp h1 ?_ ha').trans (by simp [hfx])⟩
      unfold emitApp
      rw [h2, Option.bind_some]
      exact appendAt_at (k := 0) rfl (by omega)
theorem compRun_gen {src : Act It} {sel : List Nat} {ae : AEnv} (hc : ae.code = code) (hsrc : src ae M = some (it, M)) (hsel : pick ae.cells sel = some cs) (hsz : isize it M = xs.length) (hin : ∀ i R, inext it i (M ++ R) = some xs[i]?) (hl : xs.length ≤ 1000000)
    (hno : ∀ x acc, x ∈ xs → f x = none → testsGo tst ⟨M.length + 1, cs, code⟩ (M ++ [.list acc, .ns [n0, n1] [.none, some x]]) = some (false, M ++ [.list acc, .ns [n0, n1] [.none, some x]]))
    (hyes : ∀ x y acc, x ∈ xs → f x = some y → testsGo tst ⟨M.length + 1, cs, code⟩ (M ++ [.list acc, .ns [n0, n1] [.none, some x]]) = some (true, M ++ [.list acc, .ns [n0, n1] [.none, some x]]) ∧ e ⟨M.length + 1, cs, code⟩ (M ++ [.list acc, .ns [n0, n1] [.none, some x]]) = some (y, M ++ [.list acc, .ns [n0, n1] [.none, some x]])) :
    ∃ a', compRun src [n0, n1] sel (gLoc [n0, n1] 1) tst (emitApp e) ae M = some (M.length, M ++ [.list (xs.filterMap f), .ns [n0, n1] [.none, a']]) := by
  subst hc
  obtain ⟨a', h⟩ := comp_gen (M := M) hin hl hno hyes xs 0 (xs.length + 1) [] none rfl (by omega) (by simp)
  refine ⟨a', run_of hsrc hsel ?_⟩
  rw [hsz]
  exact h
theorem bComp_gen {src : Act It} {sel : List Nat} {ae : AEnv} (hfl : (xs.filterMap f).all AV.flat = true) (hc : ae.code = code) (hsrc : src ae M = some (it, M)) (hsel : pick ae.cells sel = some cs) (hsz : isize it M = xs.length) (hin : ∀ i R, inext it i (M ++ R) = some xs[i]?) (hl : xs.length ≤ 1000000)
    (hno : ∀ x acc, x ∈ xs → f x = none → testsGo tst ⟨M.length + 1, cs, code⟩ (M ++ [.list acc, .ns [n0, n1] [.none, some x]]) = some (false, M ++ [.list acc, .ns [n0, n1] [.none, some x]]))
    (hyes : ∀ x y acc, x ∈ xs → f x = some y → testsGo tst ⟨M.length + 1, cs, code⟩ (M ++ [.list acc, .ns [n0, n1] [.none, some x]]) = some (true, M ++ [.list acc, .ns [n0, n1] [.none, some x]]) ∧ e ⟨M.length + 1, cs, code⟩ (M ++ [.list acc, .ns [n0, n1] [.none, some x]]) = some (y, M ++ [.list acc, .ns [n0, n1] [.none, some x]])) :
    bComp (compRun src [n0, n1] sel (gLoc [n0, n1] 1) tst (emitApp e)) ae M = some (.ref M.length, M ++ [.list (xs.filterMap f)]) := by
  obtain ⟨a', h⟩ := compRun_gen hc hsrc hsel hsz hin hl hno hyes
  exact bComp_of h hfl
theorem rng_in {n : Nat} {st : St} (i : Nat) : inext (.rng 0 1 n) i st = some ((nts (List.range n))[i]?) := by
  by_cases h : i < n
  · rw [inext_rng h, nts_get (x := i) (by simp [h])]
  · rw [inext_rng_end (by omega), List.getElem?_eq_none (by rw [nts_len]; simp; omega)]
end
def nmDb : List Str := ["steps", "number", "least", "ones", "left"]
def nmDj : List Str := [".0", "j"]
def nmDc : List Str := [".0", "colour"]
def nmDo : List Str := [".0", "one"]
noncomputable def dbNear (aP : Addr) (c : CallF) : Act AV := (bComp (compRun (iCall (bVal (.typ "range")) (lCons (bCall c (bVal (.blt "len")) (lCons (bCell 1) lNil) kNil) lNil)) nmDj [0, 1, 2, 3] (gLoc nmDj 1) [(tCmp .LtE (bCall c (bVal (.old aP)) (lCons (bBin .BitXor (bItem (bCell 1) (bLoc nmDj 1)) (bCell 2)) lNil) kNil) (bCell 0))] (emitApp (bItem (bCell 3) (bLoc nmDj 1)))))
noncomputable def dbFree (c : CallF) : Act AV := (bComp (compRun (iCall (bVal (.typ "range")) (lCons (bBin .Add (bCall c (bVal (.blt "len")) (lCons (bCell 1) lNil) kNil) (bVal (.int 1))) lNil)) nmDc [4] (gLoc nmDc 1) [(tCmp .NotIn (bLoc nmDc 1) (bCell 0))] (emitApp (bLoc nmDc 1))))
noncomputable def dbTwin : Act AV := (bComp (compRun (iList (bCell 1)) nmDo [2] (gLoc nmDo 1) [] (emitApp (bBin .BitXor (bLoc nmDo 1) (bCell 0)))))
noncomputable def dbIn (aFi aP aV : Addr) (c : CallF) : Act AFlow := (xSeq (xAsg (bCall c (bVal (.old aFi)) (lCons (bLoc nmDb 1) (lCons (bCall c (bVal (.blt "len")) (lCons (bCell 1) lNil) kNil) lNil)) kNil) [(gCell 3)])
  (xSeq (xAsg (dbNear aP c) [(gCell 4)])
  (xSeq (xAsg (bCall c (bVal (.blt "min")) (lCons (dbFree c) lNil) kNil) [(gLoc nmDb 2)])
  (xSeq (xAsg (bCall c (bVal (.old aV)) (lCons (bBin .Sub (bBin .Pow (bVal (.int 16)) (bCall c (bVal (.blt "len")) (lCons (bCell 1) lNil) kNil)) (bVal (.int 1))) (lCons (bVal (.int 15)) lNil)) kNil) [(gTup [(gLoc nmDb 3), (gLoc nmDb 4)])])
  (xSeq (xIf (tCmp .NotEq (bLoc nmDb 4) (bVal (.int 0))) (xSeq (xRet (bUn .USub (bVal (.int 1))))
  xPass) xPass)
  (xSeq (xAsg (bBin .Add (bLoc nmDb 1) (bBin .LShift (bBin .BitXor (bLoc nmDb 1) (bBin .Mult (bLoc nmDb 2) (bLoc nmDb 3))) (bBin .Mult (bVal (.int 4)) (bCall c (bVal (.blt "len")) (lCons (bCell 1) lNil) kNil)))) [(gLoc nmDb 1)])
  (xSeq (xAsg (bBin .Add (bCell 1) dbTwin) [(gCell 1)])
  xPass)))))))
noncomputable def dbAct (aFi aP aV : Addr) (c : CallF) : Act AFlow := (xSeq (xAsg (bList (lCons (bVal (.int 0)) lNil)) [(gCell 1)])
  (xSeq (xAsg (bVal (.int 0)) [(gLoc nmDb 1)])
  (xSeq (xFor (iList (bLoc nmDb 0)) (gCell 2) (dbIn aFi aP aV c) xPass)
  (xSeq (xRet (bLoc nmDb 1))
  xPass))))
def nearL (bound : Int) (held told : List Nat) (s : Nat) : List Nat := (List.range held.length).filterMap fun j => if (priceF (held.getD j 0 ^^^ s) : Int) ≤ bound then some (told.getD j 0) else none
def freeL (near : List Nat) (n : Nat) : List Nat := (List.range n).filter fun c => decide (c ∉ near)
def fOf (g : Nat → Option Nat) : AV → Option AV
  | .int x => (g x.toNat).map fun (y : Nat) => AV.int (y : Int)
  | _ => none
theorem fOf_nat (g : Nat → Option Nat) (n : Nat) : fOf g (.int (n : Int)) = (g n).map fun (y : Nat) => AV.int (y : Int) := by show (g (n : Int).toNat).map _ = _; rw [Int.toNat_natCast]
theorem nts_fm (g : Nat → Option Nat) (l : List Nat) : (nts l).filterMap (fOf g) = nts (l.filterMap g) := by
  unfold nts
  rw [List.filterMap_map, List.map_filterMap]
  refine congrArg (fun f => List.filterMap f l) ?_
  funext x
  exact fOf_nat g x
theorem nts_mem {l : List Nat} {x : AV} (h : x ∈ nts l) : ∃ n ∈ l, x = .int (n : Int) := by
  unfold nts at h
  obtain ⟨n, hn, rfl⟩ := List.mem_map.mp h
  exact ⟨n, hn, rfl⟩
theorem getD_of {l : List Nat} {i : Nat} (h : i < l.length) : l[i]? = some (l.getD i 0) := by
  rw [List.getD_eq_getElem?_getD, List.getElem?_eq_getElem h]; rfl
theorem any_nat {l : List Nat} {c : Nat} : ((l.map Int.ofNat).any fun b => decide (b = (c : Int))) = decide (c ∈ l) := by
  rw [Bool.eq_iff_iff]
  simp only [List.any_eq_true, List.mem_map, decide_eq_true_eq]
  constructor
  · rintro ⟨x, ⟨y, hy, rfl⟩, e⟩
    rw [show y = c from Int.ofNat.inj e] at hy
    exact hy
  · intro h
    exact ⟨_, ⟨c, h, rfl⟩, rfl⟩
theorem intsOf_nts (l : List Nat) : intsOf (nts l) = some (l.map Int.ofNat) := by
  have := intsOf_map (l.map Int.ofNat)
  rw [List.map_map] at this
  exact this
section
variable {M : St} {code : Value} {q : CallF} {c0 c1 c2 c3 : Nat} {bound : Int} {hk tk nk s : Nat} {held told near : List Nat} {fr : Nat} {sel : List Nat} {cells : List Nat}
theorem near_run {aP : Addr} (hP : ∀ (g : Nat) st, g < 16 → q (.old aP) [.int (g : Int)] [] st = some (.int (priceF g : Nat), st))
    (e0 : M[c0]? = some (.cell (some (.int bound)))) (e1 : M[c1]? = some (.cell (some (.ref hk)))) (e2 : M[c2]? = some (.cell (some (.int (s : Int))))) (e3 : M[c3]? = some (.cell (some (.ref tk))))
    (hh : M[hk]? = some (.list (nts held))) (ht : M[tk]? = some (.list (nts told))) (hl : held.length ≤ 100) (htl : told.length = held.length) (hlt : ∀ x ∈ held, x < 16) (hs : s < 16) {c4 : Nat} :
    dbNear aP (cOr blts q) ⟨fr, [c0, c1, c2, c3, c4], code⟩ M = some (.ref M.length, M ++ [.list (nts (nearL bound held told s))]) := by
  have hf : (nts (List.range held.length)).filterMap (fOf fun j => if (priceF (held.getD j 0 ^^^ s) : Int) ≤ bound then some (told.getD j 0) else none) = nts (nearL bound held told s) := nts_fm _ _
  have hlen : (nts held).length ≤ 1000000 := by rw [nts_len]; omega
  have hrb := rng_nat (n := held.length) (by omega)
  have hsrc : iCall (bVal (.typ "range")) (lCons (bCall (cOr blts q) (bVal (.blt "len")) (lCons (bCell 1) lNil) kNil) lNil) ⟨fr, [c0, c1, c2, c3, c4], code⟩ M = some (.rng 0 1 held.length, M) := by
    simp -implicitDefEqProofs only [ev, ↓reduceIte, Nat.reduceAdd, reduceCtorEq, e1, c_lenL hh hlen, nts_len, hrb.1, hrb.2]
  rw [← hf]
  unfold dbNear nmDj
  have facts : ∀ (x : AV) acc, x ∈ nts (List.range held.length) → ∃ j, j < held.length ∧ x = .int (j : Int) ∧ testsGo [(tCmp .LtE (bCall (cOr blts q) (bVal (.old aP)) (lCons (bBin .BitXor (bItem (bCell 1) (bLoc [".0", "j"] 1)) (bCell 2)) lNil) kNil) (bCell 0))] ⟨M.length + 1, [c0, c1, c2, c3], code⟩ (M ++ [.list acc, .ns [".0", "j"] [.none, some x]]) = some (decide ((priceF (held.getD j 0 ^^^ s) : Int) ≤ bound), M ++ [.list acc, .ns [".0", "j"] [.none, some x]]) ∧ bItem (bCell 3) (bLoc [".0", "j"] 1) ⟨M.length + 1, [c0, c1, c2, c3], code⟩ (M ++ [.list acc, .ns [".0", "j"] [.none, some x]]) = some (.int (told.getD j 0 : Nat), M ++ [.list acc, .ns [".0", "j"] [.none, some x]]) := by
    intro x acc hx
    obtain ⟨j, hj, rfl⟩ := nts_mem hx
    have hj := List.mem_range.mp hj
    have i1 : ∀ R, aitem (.ref hk) (.int (j : Int)) (M ++ R) = some (.int (held.getD j 0 : Nat), M ++ R) := fun R => aitem_at (app_get hh) (nts_get (getD_of hj)) (by omega)
    have i2 : ∀ R, aitem (.ref tk) (.int (j : Int)) (M ++ R) = some (.int (told.getD j 0 : Nat), M ++ R) := fun R => aitem_at (app_get ht) (nts_get (getD_of (by omega))) (by omega)
    have hx16 : held.getD j 0 ^^^ s < 16 := xor_lt16 (hlt _ (List.mem_of_getElem? (getD_of hj))) hs
    have a0 : ∀ R : St, (M ++ R)[c0]? = _ := fun R => app_get e0
    have a1 : ∀ R : St, (M ++ R)[c1]? = _ := fun R => app_get e1
    have a2 : ∀ R : St, (M ++ R)[c2]? = _ := fun R => app_get e2
    have a3 : ∀ R : St, (M ++ R)[c3]? = _ := fun R => app_get e3
    refine ⟨j, hj, rfl, ?_, ?_⟩
    · by_cases hb : (priceF (held.getD j 0 ^^^ s) : Int) ≤ bound
      · have hd : decide ((priceF (held.getD j 0 ^^^ s) : Int) ≤ bound) = true := decide_eq_true hb
        simp -implicitDefEqProofs only [ev, ↓reduceIte, Nat.reduceAdd, reduceCtorEq, testsGo, a0, a1, a2, i1, bitXor_nat, c_old, hP _ _ hx16, hd]
      · have hd : decide ((priceF (held.getD j 0 ^^^ s) : Int) ≤ bound) = false := decide_eq_false hb
        simp -implicitDefEqProofs only [ev, ↓reduceIte, Nat.reduceAdd, reduceCtorEq, testsGo, a0, a1, a2, i1, bitXor_nat, c_old, hP _ _ hx16, hd]
    · simp -implicitDefEqProofs only [ev, ↓reduceIte, Nat.reduceAdd, reduceCtorEq, a3, i2]
  refine bComp_gen (by rw [hf]; exact nts_flat _) rfl hsrc rfl (by rw [nts_len, List.length_range]; rfl) (fun i R => rng_in i) (by rw [nts_len, List.length_range]; omega) (fun x acc hx hn => ?_) (fun x y acc hx hn => ?_)
  · obtain ⟨j, hj, rfl, h1, h2⟩ := facts x acc hx
    rw [fOf_nat] at hn
    rw [h1]
    by_cases hb : (priceF (held.getD j 0 ^^^ s) : Int) ≤ bound
    · rw [if_pos hb] at hn; cases hn
    · rw [decide_eq_false hb]
  · obtain ⟨j, hj, rfl, h1, h2⟩ := facts x acc hx
    rw [fOf_nat] at hn
    rw [h1, h2]
    by_cases hb : (priceF (held.getD j 0 ^^^ s) : Int) ≤ bound
    · rw [if_pos hb] at hn; cases hn
      rw [decide_eq_true hb]
      exact ⟨rfl, rfl⟩
    · rw [if_neg hb] at hn; cases hn
theorem free_run (e1 : M[c1]? = some (.cell (some (.ref hk)))) {c4 : Nat} (e4 : M[c4]? = some (.cell (some (.ref nk))))
    (hh : M[hk]? = some (.list (nts held))) (hn : M[nk]? = some (.list (nts near))) (hl : held.length ≤ 100) :
    dbFree (cOr blts q) ⟨fr, [c0, c1, c2, c3, c4], code⟩ M = some (.ref M.length, M ++ [.list (nts (freeL near (held.length + 1)))]) := by
  have hf : (nts (List.range (held.length + 1))).filterMap (fOf fun c => if c ∈ near then none else some c) = nts (freeL near (held.length + 1)) := by
    rw [nts_fm]
    unfold freeL
    congr 1
    rw [← List.filterMap_eq_filter]
    congr 1
    funext c
    by_cases h : c ∈ near <;> simp [h, Option.guard]
  have hlen : (nts held).length ≤ 1000000 := by rw [nts_len]; omega
  have hrb := rng_nat (n := held.length + 1) (by omega)
  have ec : ((held.length : Nat) : Int) + 1 = ((held.length + 1 : Nat) : Int) := by omega
  have hsrc : iCall (bVal (.typ "range")) (lCons (bBin .Add (bCall (cOr blts q) (bVal (.blt "len")) (lCons (bCell 1) lNil) kNil) (bVal (.int 1))) lNil) ⟨fr, [c0, c1, c2, c3, c4], code⟩ M = some (.rng 0 1 (held.length + 1), M) := by
    simp -implicitDefEqProofs only [ev, ↓reduceIte, Nat.reduceAdd, reduceCtorEq, e1, c_lenL hh hlen, nts_len, ec, hrb.1, hrb.2]
  rw [← hf]
  unfold dbFree nmDc
  have facts : ∀ (x : AV) acc, x ∈ nts (List.range (held.length + 1)) → ∃ j : Nat, x = .int (j : Int) ∧ testsGo [(tCmp .NotIn (bLoc [".0", "colour"] 1) (bCell 0))] ⟨M.length + 1, [c4], code⟩ (M ++ [.list acc, .ns [".0", "colour"] [.none, some x]]) = some (!decide (j ∈ near), M ++ [.list acc, .ns [".0", "colour"] [.none, some x]]) ∧ bLoc [".0", "colour"] 1 ⟨M.length + 1, [c4], code⟩ (M ++ [.list acc, .ns [".0", "colour"] [.none, some x]]) = some (.int (j : Int), M ++ [.list acc, .ns [".0", "colour"] [.none, some x]]) := by
    intro x acc hx
    obtain ⟨j, hj, rfl⟩ := nts_mem hx
    have a4 : ∀ R : St, (M ++ R)[c4]? = _ := fun R => app_get e4
    have al : ∀ R : St, listAt (M ++ R) nk = some (nts near) := fun R => by unfold listAt; rw [app_get hn]
    refine ⟨j, rfl, ?_, ?_⟩
    · by_cases hb : j ∈ near
      · have hd : decide (j ∈ near) = true := decide_eq_true hb
        simp -implicitDefEqProofs only [ev, ↓reduceIte, Nat.reduceAdd, reduceCtorEq, testsGo, a4, al, intsOf_nts, any_nat, hd]
      · have hd : decide (j ∈ near) = false := decide_eq_false hb
        simp -implicitDefEqProofs only [ev, ↓reduceIte, Nat.reduceAdd, reduceCtorEq, testsGo, a4, al, intsOf_nts, any_nat, hd]
    · simp -implicitDefEqProofs only [ev, ↓reduceIte, Nat.reduceAdd, reduceCtorEq]
  refine bComp_gen (by rw [hf]; exact nts_flat _) rfl hsrc rfl (by rw [nts_len, List.length_range]; rfl) (fun i R => rng_in i) (by rw [nts_len, List.length_range]; omega) (fun x acc hx hn => ?_) (fun x y acc hx hn => ?_)
  · obtain ⟨j, rfl, h1, h2⟩ := facts x acc hx
    rw [fOf_nat] at hn
    rw [h1]
    by_cases hb : j ∈ near
    · rw [decide_eq_true hb]; rfl
    · rw [if_neg hb] at hn; cases hn
  · obtain ⟨j, rfl, h1, h2⟩ := facts x acc hx
    rw [fOf_nat] at hn
    rw [h1, h2]
    by_cases hb : j ∈ near
    · rw [if_pos hb] at hn; cases hn
    · rw [if_neg hb] at hn; cases hn
      rw [decide_eq_false hb]
      exact ⟨rfl, rfl⟩
theorem twin_run (e1 : M[c1]? = some (.cell (some (.ref hk)))) (e2 : M[c2]? = some (.cell (some (.int (s : Int))))) {c4 : Nat}
    (hh : M[hk]? = some (.list (nts held))) (hl : held.length ≤ 100) :
    dbTwin ⟨fr, [c0, c1, c2, c3, c4], code⟩ M = some (.ref M.length, M ++ [.list (nts (held.map (· ^^^ s)))]) := by
  have hf : (nts held).filterMap (fOf fun x => some (x ^^^ s)) = nts (held.map (· ^^^ s)) := by
    rw [nts_fm]
    exact congrArg nts (congrFun (List.filterMap_eq_map (f := fun x => x ^^^ s)) held)
  have hsrc : iList (bCell 1) ⟨fr, [c0, c1, c2, c3, c4], code⟩ M = some (.lst hk, M) := by
    have : itemsAt M hk = some (nts held) := by unfold itemsAt; rw [hh]
    simp -implicitDefEqProofs only [ev, ↓reduceIte, Nat.reduceAdd, reduceCtorEq, e1, this]
  rw [← hf]
  unfold dbTwin nmDo
  refine bComp_gen (by rw [hf]; exact nts_flat _) rfl hsrc rfl (isize_lst hh) (fun i R => inext_lst (app_get hh)) (by rw [nts_len]; omega) (fun x acc hx hn => ?_) (fun x y acc hx hn => ?_)
  · obtain ⟨j, hj, rfl⟩ := nts_mem hx
    rw [fOf_nat] at hn; cases hn
  · obtain ⟨j, hj, rfl⟩ := nts_mem hx
    rw [fOf_nat] at hn; cases hn
    have a2 : ∀ R : St, (M ++ R)[c2]? = _ := fun R => app_get e2
    refine ⟨rfl, ?_⟩
    simp -implicitDefEqProofs only [ev, ↓reduceIte, Nat.reduceAdd, reduceCtorEq, a2, bitXor_nat]
end
theorem c_minL {q : CallF} {st : St} {k : Nat} {xs : List AV} {ns : List Int} (h : itemsAt st k = some xs) (h2 : intsOf xs = some ns) (h3 : 0 < ns.length) : cOr blts q (.blt "min") [.ref k] [] st = some (.int (minI ns), st) := by
  refine cor_l (cor_r rfl (cor_r rfl (cor_r rfl (cor_r rfl (cor_l ?_)))))
  show (itemsAt st k).bind _ = _
  rw [h, Option.bind_some, h2, Option.bind_some, if_pos h3]
theorem c_sumL {q : CallF} {st : St} {k : Nat} {xs : List AV} {ns : List Int} (h : itemsAt st k = some xs) (h2 : intsOf xs = some ns) : cOr blts q (.blt "sum") [.ref k] [] st = some (.int ns.sum, st) := by
  refine cor_l (cor_r rfl (cor_r rfl (cor_r rfl (cor_r rfl (cor_r rfl (cor_l ?_))))))
  show (itemsAt st k).bind _ = _
  rw [h, Option.bind_some, h2]; rfl
theorem c_sortedL {q : CallF} {st : St} {k : Nat} {xs : List AV} {ns : List Int} (h : itemsAt st k = some xs) (h2 : intsOf xs = some ns) (h3 : ns.length < 64) : cOr blts q (.blt "sorted") [.ref k] [] st = some (.ref st.length, st ++ [.list ((sortI ns).map .int)]) := by
  refine cor_l (cor_r rfl (cor_r rfl (cor_r rfl (cor_r rfl (cor_r rfl (cor_r rfl (cor_l ?_)))))))
  show (itemsAt st k).bind _ = _
  rw [h, Option.bind_some, h2, Option.bind_some, if_pos h3]
theorem sub_len : ∀ (l m : List Nat), l.Nodup → (∀ x ∈ l, x ∈ m) → l.length ≤ m.length
  | [], m, _, _ => Nat.zero_le _
  | a :: l, m, hn, hs => by
    have ha := hs a (List.mem_cons_self ..)
    obtain ⟨h1, h2⟩ := List.nodup_cons.mp hn
    have := sub_len l (m.erase a) h2 fun x hx => (List.mem_erase_of_ne (fun e => h1 (by rw [← e]; exact hx))).mpr (hs x (List.mem_cons_of_mem _ hx))
    rw [List.length_erase_of_mem ha] at this
    have : 0 < m.length := List.length_pos_of_mem ha
    simp; omega
theorem mexGo_all {l : List Nat} : ∀ (f c : Nat), ∀ x, c ≤ x → x < mexGo l f c → x ∈ l
  | 0, c, x, h1, h2 => by unfold mexGo at h2; omega
  | f + 1, c, x, h1, h2 => by
    unfold mexGo at h2
    split at h2
    · by_cases e : x = c
      · subst e; assumption
      · exact mexGo_all f (c + 1) x (by omega) h2
    · omega
theorem mexGo_stop {l : List Nat} : ∀ (f c : Nat), mexGo l f c < c + f → mexGo l f c ∉ l
  | 0, c, h => by unfold mexGo at h; omega
  | f + 1, c, h => by
    unfold mexGo at h ⊢
    split at h
    · rename_i hc
      rw [if_pos hc]
      exact mexGo_stop f (c + 1) (by omega)
    · rename_i hc
      rw [if_neg hc]; exact hc
theorem mex_not {l : List Nat} {n : Nat} (h : l.length ≤ n) : mexGo l n 0 ∉ l := by
  intro hm
  by_cases hs : mexGo l n 0 < 0 + n
  · exact mexGo_stop n 0 hs hm
  · have hle := mexGo_le l n 0
    have e : mexGo l n 0 = n := by omega
    rw [e] at hm
    have := sub_len (List.range (n + 1)) l List.nodup_range fun x hx => by
      have := List.mem_range.mp hx
      by_cases hx : x = n
      · rw [hx]; exact hm
      · exact mexGo_all n 0 x (by omega) (by omega)
    rw [List.length_range] at this
    omega
theorem minI_eq : ∀ {l : List Int} {m : Int}, m ∈ l → (∀ x ∈ l, m ≤ x) → minI l = m
  | [], m, h, _ => absurd h List.not_mem_nil
  | [a], m, h, _ => by rw [List.mem_singleton.mp h]; rfl
  | a :: b :: r, m, h, h2 => by
    show (if a ≤ minI (b :: r) then a else minI (b :: r)) = m
    rcases List.mem_cons.mp h with rfl | h
    · have : minI (b :: r) ∈ b :: r := minI_mem _ (by simp)
      rw [if_pos (h2 _ (List.mem_cons_of_mem _ this))]
    · rw [minI_eq h fun x hx => h2 x (List.mem_cons_of_mem _ hx)]
      have := h2 a (List.mem_cons_self ..)
      split <;> omega
where minI_mem : ∀ (l : List Int), l ≠ [] → minI l ∈ l
  | [], h => absurd rfl h
  | [a], _ => by simp [minI]
  | a :: b :: r, _ => by
    show (if a ≤ minI (b :: r) then a else minI (b :: r)) ∈ _
    split
    · exact List.mem_cons_self ..
    · exact List.mem_cons_of_mem _ (minI_mem (b :: r) (by simp))
theorem free_min {near : List Nat} {n : Nat} (h : near.length ≤ n) : minI ((freeL near (n + 1)).map Int.ofNat) = (mexGo near n 0 : Nat) ∧ 0 < ((freeL near (n + 1)).map Int.ofNat).length := by
  have hle := mexGo_le near n 0
  have hm : mexGo near n 0 ∈ freeL near (n + 1) := by
    unfold freeL
    rw [List.mem_filter]
    exact ⟨List.mem_range.mpr (by omega), decide_eq_true (mex_not h)⟩
  refine ⟨minI_eq (List.mem_map.mpr ⟨_, hm, rfl⟩) fun x hx => ?_, List.length_pos_of_mem (List.mem_map.mpr ⟨_, hm, rfl⟩)⟩
  obtain ⟨y, hy, rfl⟩ := List.mem_map.mp hx
  unfold freeL at hy
  obtain ⟨hy1, hy2⟩ := List.mem_filter.mp hy
  have hy3 : y ∉ near := of_decide_eq_true hy2
  show (mexGo near n 0 : Int) ≤ (y : Int)
  rcases Nat.lt_or_ge y (mexGo near n 0) with hlt | hge
  · exact absurd (mexGo_all n 0 y (by omega) hlt) hy3
  · omega
def leastF (bound : Int) (held : List Nat) (num s : Nat) : Nat := mexGo (nearL bound held (digN 16 held.length num) s) held.length 0
def numF (bound : Int) (held : List Nat) (num s : Nat) : Nat := num + (num ^^^ leastF bound held num s * ((16 ^ held.length - 1) / 15)) * 2 ^ (4 * held.length)
def dbGo (bound : Int) : List Nat → List Nat → Nat → Nat
  | [], _, num => num
  | s :: ss, held, num => dbGo bound ss (held ++ held.map (· ^^^ s)) (numF bound held num s)
def dbF (bound : Int) (ss : List Nat) : Nat := dbGo bound ss [0] 0
theorem nearL_len (bound : Int) (held told : List Nat) (s : Nat) : (nearL bound held told s).length ≤ held.length := by
  unfold nearL
  have := List.length_filterMap_le (fun j => if (priceF (held.getD j 0 ^^^ s) : Int) ≤ bound then some (told.getD j 0) else none) (List.range held.length)
  rw [List.length_range] at this
  exact this
theorem ones15 : ∀ n : Fin 9, ((16 ^ n.val - 1) % 15 = 0) ∧ 15 * ((16 ^ n.val - 1) / 15) + 1 = 16 ^ n.val ∧ (16 ^ n.val - 1) / 15 < 2 ^ 64 ∧ 16 ^ n.val - 1 < 2 ^ 120 ∧ 16 ^ n.val = 2 ^ (4 * n.val) ∧ 2 ^ (4 * n.val) ≤ 2 ^ 32 := by decide
theorem numF_lt {bound : Int} {held : List Nat} {num s : Nat} (hl : held.length ≤ 8) (hn : num < 16 ^ held.length) : leastF bound held num s ≤ held.length ∧ num ^^^ leastF bound held num s * ((16 ^ held.length - 1) / 15) < 2 ^ (4 * held.length) ∧ numF bound held num s < 16 ^ (held.length + held.length) := by
  obtain ⟨o1, o2, o3, o4, o5, o6⟩ := ones15 ⟨held.length, by omega⟩
  simp only at o1 o2 o3 o4 o5 o6
  have hle : leastF bound held num s ≤ held.length := by
    have := mexGo_le (nearL bound held (digN 16 held.length num) s) held.length 0
    unfold leastF; omega
  have h1 : leastF bound held num s * ((16 ^ held.length - 1) / 15) < 2 ^ (4 * held.length) := by
    rw [← o5]
    have : leastF bound held num s * ((16 ^ held.length - 1) / 15) ≤ 15 * ((16 ^ held.length - 1) / 15) := Nat.mul_le_mul_right _ (by omega)
    omega
  have h2 : num ^^^ leastF bound held num s * ((16 ^ held.length - 1) / 15) < 2 ^ (4 * held.length) := Nat.xor_lt_two_pow (by rw [← o5]; exact hn) h1
  refine ⟨hle, h2, ?_⟩
  unfold numF
  rw [Nat.pow_add, o5]
  rw [o5] at hn
  rw [o5] at h2
  generalize num ^^^ leastF bound held num s * ((2 ^ (4 * held.length) - 1) / 15) = y at *
  have h3 : y * 2 ^ (4 * held.length) + 2 ^ (4 * held.length) ≤ 2 ^ (4 * held.length) * 2 ^ (4 * held.length) := by
    have : (y + 1) * 2 ^ (4 * held.length) ≤ 2 ^ (4 * held.length) * 2 ^ (4 * held.length) := Nat.mul_le_mul_right _ h2
    rw [Nat.add_mul] at this
    omega
  omega
def At (L R : St) (k : Nat) (ob : AO) : Prop := ∀ (a0 a1 a2 a3 a4 a5 : AO) (G : St), (L ++ a0 :: a1 :: a2 :: a3 :: a4 :: a5 :: (R ++ G))[k]? = some ob
theorem At.app {L R : St} {k : Nat} {ob : AO} (h : At L R k ob) (X : St) : At L (R ++ X) k ob := fun a0 a1 a2 a3 a4 a5 G => by rw [List.append_assoc]; exact h ..
theorem At.zero {L R : St} {k : Nat} {ob : AO} (h : At L R k ob) (a0 a1 a2 a3 a4 a5 : AO) : (L ++ a0 :: a1 :: a2 :: a3 :: a4 :: a5 :: R)[k]? = some ob := by have := h a0 a1 a2 a3 a4 a5 []; rwa [List.append_nil] at this
theorem At.last {L R : St} {ob : AO} : At L (R ++ [ob]) (L.length + (R.length + 6)) ob := fun a0 a1 a2 a3 a4 a5 G => by
  rw [getK, List.append_assoc]
  show (R ++ ([ob] ++ G))[R.length]? = _
  rw [getA]; rfl
def dbS (ks num : Nat) (le on lf : Option AV) (bound : Int) (hk : Nat) (sp tk nk : Option AV) (R : St) : St := .ns nmDb [some (.ref ks), some (.int (num : Int)), le, on, lf] :: .cell (some (.int bound)) :: .cell (some (.ref hk)) :: .cell sp :: .cell tk :: .cell nk :: R
section
variable {L R : St} {code : Value} {q : CallF} {ks hk num s : Nat} {bound : Int} {held : List Nat} {le on lf sp tk nk : Option AV}
def dbEnv (L : St) (code : Value) : AEnv := ⟨L.length, [L.length + 1, L.length + 2, L.length + 3, L.length + 4, L.length + 5], code⟩
theorem dbS_app {X : AO} : (L ++ dbS ks num le on lf bound hk sp tk nk R) ++ [X] = L ++ dbS ks num le on lf bound hk sp tk nk (R ++ [X]) := by unfold dbS; simp
theorem dbS_len : (L ++ dbS ks num le on lf bound hk sp tk nk R).length = L.length + (R.length + 6) := by unfold dbS; simp
theorem db_lenH (H : At L R hk (.list (nts held))) (hl : held.length ≤ 100) (a0 a1 a2 a3 a4 a5 : AO) : cOr blts q (.blt "len") [.ref hk] [] (L ++ a0 :: a1 :: a2 :: a3 :: a4 :: a5 :: R) = some (.int (held.length : Int), L ++ a0 :: a1 :: a2 :: a3 :: a4 :: a5 :: R) := by
  have := c_lenL (q := q) (H.zero a0 a1 a2 a3 a4 a5) (by rw [nts_len]; omega)
  rwa [nts_len] at this
theorem db1 {aFi : Addr} (hF : ∀ (x c : Nat) st, c ≤ 100 → x < 2 ^ 128 → q (.old aFi) [.int (x : Int), .int (c : Int)] [] st = some (.ref st.length, st ++ [.list (nts (digN 16 c x))])) (H : At L R hk (.list (nts held))) (hl : held.length ≤ 8) (hn : num < 2 ^ 128) :
    xAsg (bCall (cOr blts q) (bVal (.old aFi)) (lCons (bLoc nmDb 1) (lCons (bCall (cOr blts q) (bVal (.blt "len")) (lCons (bCell 1) lNil) kNil) lNil)) kNil) [(gCell 3)] (dbEnv L code) (L ++ dbS ks num le on lf bound hk sp tk nk R)
      = some (.next, L ++ dbS ks num le on lf bound hk sp (some (.ref (L.length + (R.length + 6)))) nk (R ++ [.list (nts (digN 16 held.length num))])) := by
  have h1 := db_lenH (q := q) H (by omega)
  have h2 := fun st => hF num held.length st (by omega) hn
  unfold dbEnv dbS
  simp -implicitDefEqProofs only [ev, ↓reduceIte, Nat.reduceAdd, reduceCtorEq, h1, h2, c_old]
theorem db2 {aP : Addr} (hP : ∀ (g : Nat) st, g < 16 → q (.old aP) [.int (g : Int)] [] st = some (.int (priceF g : Nat), st)) {told : List Nat} {tk' : Nat} (H : At L R hk (.list (nts held))) (T : At L R tk' (.list (nts told))) (hl : held.length ≤ 8) (htl : told.length = held.length) (hlt : ∀ x ∈ held, x < 16) (hs : s < 16) :
    xAsg (dbNear aP (cOr blts q)) [(gCell 4)] (dbEnv L code) (L ++ dbS ks num le on lf bound hk (some (.int (s : Int))) (some (.ref tk')) nk R)
      = some (.next, L ++ dbS ks num le on lf bound hk (some (.int (s : Int))) (some (.ref tk')) (some (.ref (L.length + (R.length + 6)))) (R ++ [.list (nts (nearL bound held told s))])) := by
  have h := near_run (code := code) (fr := L.length) (c4 := L.length + 5) (c0 := L.length + 1) (c1 := L.length + 2) (c2 := L.length + 3) (c3 := L.length + 4) (bound := bound) (s := s) (M := L ++ dbS ks num le on lf bound hk (some (.int (s : Int))) (some (.ref tk')) nk R) hP (by rw [getK]; rfl) (by rw [getK]; rfl) (by rw [getK]; rfl) (by rw [getK]; rfl) (H.zero ..) (T.zero ..) (by omega) htl hlt hs
  rw [dbS_app, dbS_len] at h
  unfold xAsg dbEnv
  rw [h, Option.bind_some]
  unfold dbS
  simp -implicitDefEqProofs only [ev, ↓reduceIte, Nat.reduceAdd, reduceCtorEq]
theorem db3 {near : List Nat} {nk' : Nat} (H : At L R hk (.list (nts held))) (N : At L R nk' (.list (nts near))) (hl : held.length ≤ 8) (hnl : near.length ≤ held.length) :
    xAsg (bCall (cOr blts q) (bVal (.blt "min")) (lCons (dbFree (cOr blts q)) lNil) kNil) [(gLoc nmDb 2)] (dbEnv L code) (L ++ dbS ks num le on lf bound hk sp tk (some (.ref nk')) R)
      = some (.next, L ++ dbS ks num (some (.int (mexGo near held.length 0 : Nat))) on lf bound hk sp tk (some (.ref nk')) (R ++ [.list (nts (freeL near (held.length + 1)))])) := by
  have h := free_run (q := q) (code := code) (fr := L.length) (c4 := L.length + 5) (c0 := L.length + 1) (c1 := L.length + 2) (c2 := L.length + 3) (c3 := L.length + 4) (M := L ++ dbS ks num le on lf bound hk sp tk (some (.ref nk')) R) (by rw [getK]; rfl) (by rw [getK]; rfl) (H.zero ..) (N.zero ..) (by omega)
  rw [dbS_app, dbS_len] at h
  obtain ⟨m1, m2⟩ := free_min hnl
  have hmin : cOr blts q (.blt "min") [.ref (L.length + (R.length + 6))] [] (L ++ dbS ks num le on lf bound hk sp tk (some (.ref nk')) (R ++ [.list (nts (freeL near (held.length + 1)))])) = some (.int (mexGo near held.length 0 : Nat), L ++ dbS ks num le on lf bound hk sp tk (some (.ref nk')) (R ++ [.list (nts (freeL near (held.length + 1)))])) := by
    have hi : itemsAt (L ++ dbS ks num le on lf bound hk sp tk (some (.ref nk')) (R ++ [.list (nts (freeL near (held.length + 1)))])) (L.length + (R.length + 6)) = some (nts (freeL near (held.length + 1))) := by
      unfold itemsAt
      rw [show (L ++ dbS ks num le on lf bound hk sp tk (some (.ref nk')) (R ++ [.list (nts (freeL near (held.length + 1)))]))[L.length + (R.length + 6)]? = _ from At.last.zero ..]
    rw [c_minL hi (intsOf_nts _) m2, m1]
  have e : (xAsg (bCall (cOr blts q) (bVal (.blt "min")) (lCons (dbFree (cOr blts q)) lNil) kNil) [(gLoc nmDb 2)]) (dbEnv L code) (L ++ dbS ks num le on lf bound hk sp tk (some (.ref nk')) R) = (storeAll [(gLoc nmDb 2)] (.int (mexGo near held.length 0 : Nat)) (dbEnv L code) (L ++ dbS ks num le on lf bound hk sp tk (some (.ref nk')) (R ++ [.list (nts (freeL near (held.length + 1)))]))).bind fun st3 => some (.next, st3) := by
    unfold dbEnv
    simp -implicitDefEqProofs only [ev, ↓reduceIte, Nat.reduceAdd, reduceCtorEq, h, hmin]
  rw [e]
  unfold dbEnv dbS
  simp -implicitDefEqProofs only [ev, ↓reduceIte, Nat.reduceAdd, reduceCtorEq]
end
section
variable {L R : St} {code : Value} {q : CallF} {ks hk num s : Nat} {bound : Int} {held : List Nat} {le on lf sp tk nk : Option AV}
theorem db4 {aV : Addr} (hV : ∀ (x b : Nat) st, 0 < b → b < 2 ^ 64 → x < 2 ^ 120 → q (.old aV) [.int (x : Int), .int (b : Int)] [] st = some (.ref st.length, st ++ [.tup [.int (x / b : Nat), .int (x % b : Nat)]])) (H : At L R hk (.list (nts held))) (hl : held.length ≤ 8) :
    xAsg (bCall (cOr blts q) (bVal (.old aV)) (lCons (bBin .Sub (bBin .Pow (bVal (.int 16)) (bCall (cOr blts q) (bVal (.blt "len")) (lCons (bCell 1) lNil) kNil)) (bVal (.int 1))) (lCons (bVal (.int 15)) lNil)) kNil) [(gTup [(gLoc nmDb 3), (gLoc nmDb 4)])] (dbEnv L code) (L ++ dbS ks num le on lf bound hk sp tk nk R)
      = some (.next, L ++ dbS ks num le (some (.int (((16 ^ held.length - 1) / 15 : Nat) : Int))) (some (.int 0)) bound hk sp tk nk (R ++ [.tup [.int (((16 ^ held.length - 1) / 15 : Nat) : Int), .int 0]])) := by
  obtain ⟨o1, o2, o3, o4, o5, o6⟩ := ones15 ⟨held.length, by omega⟩
  simp only at o1 o2 o3 o4 o5 o6
  have h1 := db_lenH (q := q) H (by omega)
  have h2 : ∀ st, q (.old aV) [.int ((16 ^ held.length - 1 : Nat) : Int), .int 15] [] st = some (.ref st.length, st ++ [.tup [.int (((16 ^ held.length - 1) / 15 : Nat) : Int), .int 0]]) := fun st => by
    have := hV (16 ^ held.length - 1) 15 st (by omega) (by omega) o4
    rw [o1] at this
    exact this
  have hp : 0 < 16 ^ held.length := Nat.pow_pos (by omega)
  have e1 : (16 : Int) ^ ((held.length : Nat) : Int).toNat - 1 = ((16 ^ held.length - 1 : Nat) : Int) := by
    rw [Int.toNat_natCast, Int.natCast_sub hp, Int.natCast_pow]; rfl
  have hb : Builtin.Int.intBits (16 : Int) ≤ 5 := intBits_le (x := 16) (k := 5) (by omega)
  have e2 : (0 ≤ ((held.length : Nat) : Int) ∧ (Builtin.Int.intBits (16 : Int) : Int) * ((held.length : Nat) : Int) ≤ 2 ^ 27) = True := eq_true ⟨by omega, by
    have : Builtin.Int.intBits (16 : Int) * held.length ≤ 5 * 8 := Nat.mul_le_mul hb hl
    have e : (Builtin.Int.intBits (16 : Int) : Int) * ((held.length : Nat) : Int) = ((Builtin.Int.intBits (16 : Int) * held.length : Nat) : Int) := by rw [Int.natCast_mul]
    rw [e]; omega⟩
  have g6 : ∀ (a0 a1 a2 a3 a4 a5 X : AO), (L ++ a0 :: a1 :: a2 :: a3 :: a4 :: a5 :: (R ++ [X]))[L.length + (R.length + 6)]? = some X := fun a0 a1 a2 a3 a4 a5 X => At.last.zero ..
  unfold dbEnv dbS
  simp -implicitDefEqProofs only [ev, ↓reduceIte, Nat.reduceAdd, reduceCtorEq, h1, e1, e2, h2, c_old, g6, tupAt]
theorem db5 (b : Act AFlow) : xIf (tCmp .NotEq (bLoc nmDb 4) (bVal (.int 0))) b xPass (dbEnv L code) (L ++ dbS ks num le on (some (.int 0)) bound hk sp tk nk R) = some (.next, L ++ dbS ks num le on (some (.int 0)) bound hk sp tk nk R) := by
  unfold dbEnv dbS
  simp -implicitDefEqProofs only [ev, ↓reduceIte, Nat.reduceAdd, reduceCtorEq]
theorem db6 {l o : Nat} (H : At L R hk (.list (nts held))) (hl : held.length ≤ 8) (hs : o < 2 ^ 64) (hy : num ^^^ l * o < 2 ^ (4 * held.length)) :
    xAsg (bBin .Add (bLoc nmDb 1) (bBin .LShift (bBin .BitXor (bLoc nmDb 1) (bBin .Mult (bLoc nmDb 2) (bLoc nmDb 3))) (bBin .Mult (bVal (.int 4)) (bCall (cOr blts q) (bVal (.blt "len")) (lCons (bCell 1) lNil) kNil)))) [(gLoc nmDb 1)] (dbEnv L code) (L ++ dbS ks num (some (.int (l : Int))) (some (.int (o : Int))) lf bound hk sp tk nk R)
      = some (.next, L ++ dbS ks (num + (num ^^^ l * o) * 2 ^ (4 * held.length)) (some (.int (l : Int))) (some (.int (o : Int))) lf bound hk sp tk nk R) := by
  have h1 := db_lenH (q := q) H (by omega)
  have e1 : (small (l : Int) || small (o : Int)) = true := by
    have : small (o : Int) = true := decide_eq_true ⟨by omega, by omega⟩
    rw [this, Bool.or_true]
  have e2 : (l : Int) * (o : Int) = ((l * o : Nat) : Int) := (Int.natCast_mul l o).symm
  have e3 : (small 4 || small ((held.length : Nat) : Int)) = true := rfl
  have e4 : (4 : Int) * ((held.length : Nat) : Int) = ((4 * held.length : Nat) : Int) := (Int.natCast_mul 4 held.length).symm
  have e5 : (0 ≤ ((4 * held.length : Nat) : Int) ∧ (Builtin.Int.intBits ((num ^^^ l * o : Nat) : Int) : Int) + ((4 * held.length : Nat) : Int) ≤ 2 ^ 27) = True := eq_true ⟨by omega, by
    have := intBits_le hy
    omega⟩
  have e6 : (num : Int) + ((num ^^^ l * o : Nat) : Int) * 2 ^ (4 * held.length) = ((num + (num ^^^ l * o) * 2 ^ (4 * held.length) : Nat) : Int) := by
    rw [Int.natCast_add, Int.natCast_mul, Int.natCast_pow]; rfl
  unfold dbEnv dbS
  simp -implicitDefEqProofs only [ev, ↓reduceIte, Nat.reduceAdd, reduceCtorEq, h1, e1, e2, e3, e4, bitXor_nat, e5, Int.toNat_natCast, e6]
theorem db7 (H : At L R hk (.list (nts held))) (hl : held.length ≤ 8) :
    xAsg (bBin .Add (bCell 1) dbTwin) [(gCell 1)] (dbEnv L code) (L ++ dbS ks num le on lf bound hk (some (.int (s : Int))) tk nk R)
      = some (.next, L ++ dbS ks num le on lf bound (L.length + (R.length + 7)) (some (.int (s : Int))) tk nk ((R ++ [.list (nts (held.map (· ^^^ s)))]) ++ [.list (nts (held ++ held.map (· ^^^ s)))])) := by
  have h := twin_run (code := code) (fr := L.length) (c0 := L.length + 1) (c3 := L.length + 4) (c4 := L.length + 5) (c1 := L.length + 2) (c2 := L.length + 3) (s := s) (M := L ++ dbS ks num le on lf bound hk (some (.int (s : Int))) tk nk R) (by rw [getK]; rfl) (by rw [getK]; rfl) (H.zero ..) (by omega)
  rw [dbS_app, dbS_len] at h
  have g6 : ∀ (a0 a1 a2 a3 a4 a5 X : AO), (L ++ a0 :: a1 :: a2 :: a3 :: a4 :: a5 :: (R ++ [X]))[L.length + (R.length + 6)]? = some X := fun a0 a1 a2 a3 a4 a5 X => At.last.zero ..
  have hh : ∀ (a0 a1 a2 a3 a4 a5 : AO) X, (L ++ a0 :: a1 :: a2 :: a3 :: a4 :: a5 :: (R ++ X))[hk]? = some (.list (nts held)) := fun a0 a1 a2 a3 a4 a5 X => H ..
  have el : ((nts held).length + (nts (held.map (· ^^^ s))).length ≤ 1000) = True := eq_true (by rw [nts_len, nts_len, List.length_map]; omega)
  unfold dbEnv
  unfold dbS at h ⊢
  simp -implicitDefEqProofs only [ev, ↓reduceIte, Nat.reduceAdd, reduceCtorEq, h, g6, hh, el, ← nts_app]
theorem xor16_len (held : List Nat) (s : Nat) : (held ++ held.map (· ^^^ s)).length = held.length + held.length := by simp
theorem db_one {aFi aP aV : Addr} (hF : ∀ (x c : Nat) st, c ≤ 100 → x < 2 ^ 128 → q (.old aFi) [.int (x : Int), .int (c : Int)] [] st = some (.ref st.length, st ++ [.list (nts (digN 16 c x))]))
    (hP : ∀ (g : Nat) st, g < 16 → q (.old aP) [.int (g : Int)] [] st = some (.int (priceF g : Nat), st))
    (hV : ∀ (x b : Nat) st, 0 < b → b < 2 ^ 64 → x < 2 ^ 120 → q (.old aV) [.int (x : Int), .int (b : Int)] [] st = some (.ref st.length, st ++ [.tup [.int (x / b : Nat), .int (x % b : Nat)]]))
    (H : At L R hk (.list (nts held))) (hl : held.length ≤ 8) (hlt : ∀ x ∈ held, x < 16) (hs : s < 16) (hn : num < 16 ^ held.length) :
    ∃ R' hk' le' on' lf' tk' nk', At L R' hk' (.list (nts (held ++ held.map (· ^^^ s)))) ∧
      dbIn aFi aP aV (cOr blts q) (dbEnv L code) (L ++ dbS ks num le on lf bound hk (some (.int (s : Int))) tk nk R) = some (.next, L ++ dbS ks (numF bound held num s) le' on' lf' bound hk' (some (.int (s : Int))) tk' nk' R') := by
  obtain ⟨o1, o2, o3, o4, o5, o6⟩ := ones15 ⟨held.length, by omega⟩
  simp only at o1 o2 o3 o4 o5 o6
  obtain ⟨n1, n2, n3⟩ := numF_lt (bound := bound) (s := s) hl hn
  have hn128 : num < 2 ^ 128 := by omega
  have e4 := (H.app [.list (nts (digN 16 held.length num))]).app [.list (nts (nearL bound held (digN 16 held.length num) s))]
  have e5 := (e4.app [.list (nts (freeL (nearL bound held (digN 16 held.length num) s) (held.length + 1)))])
  refine ⟨_, _, _, _, _, _, _, ?_, seqT (db1 hF H hl hn128) <| seqT (db2 hP (H.app _) At.last hl (digN_len _ _ _) hlt hs) <| seqT (db3 e4 At.last hl (nearL_len _ _ _ _)) <| seqT (db4 hV e5 hl) <| seqT (db5 _) <| seqT (db6 (e5.app _) hl o3 n2) <| seqT (db7 (e5.app _) hl) rfl⟩
  have := At.last (L := L) (R := ((((R ++ [AO.list (nts (digN 16 held.length num))]) ++ [.list (nts (nearL bound held (digN 16 held.length num) s))]) ++ [.list (nts (freeL (nearL bound held (digN 16 held.length num) s) (held.length + 1)))]) ++ [.tup [.int (((16 ^ held.length - 1) / 15 : Nat) : Int), .int 0]]) ++ [.list (nts (held.map (· ^^^ s)))]) (ob := .list (nts (held ++ held.map (· ^^^ s))))
  rw [List.length_append, List.length_singleton] at this
  exact this
theorem db_loop {aFi aP aV : Addr} (hF : ∀ (x c : Nat) st, c ≤ 100 → x < 2 ^ 128 → q (.old aFi) [.int (x : Int), .int (c : Int)] [] st = some (.ref st.length, st ++ [.list (nts (digN 16 c x))]))
    (hP : ∀ (g : Nat) st, g < 16 → q (.old aP) [.int (g : Int)] [] st = some (.int (priceF g : Nat), st))
    (hV : ∀ (x b : Nat) st, 0 < b → b < 2 ^ 64 → x < 2 ^ 120 → q (.old aV) [.int (x : Int), .int (b : Int)] [] st = some (.ref st.length, st ++ [.tup [.int (x / b : Nat), .int (x % b : Nat)]]))
    {ss : List Nat} (hks : L[ks]? = some (.list (nts ss))) (hss : ∀ x ∈ ss, x < 16) :
    ∀ (sr : List Nat) (i fuel : Nat) (R : St) (hk num : Nat) (held : List Nat) (le on lf sp tk nk : Option AV), ss.drop i = sr → sr.length < fuel → At L R hk (.list (nts held)) → held.length * 2 ^ sr.length ≤ 16 → (∀ x ∈ held, x < 16) → num < 16 ^ held.length → ∃ R' hk' le' on' lf' sp' tk' nk',
      forGo (.lst ks) (gCell 2) (dbIn aFi aP aV (cOr blts q)) xPass (dbEnv L code) fuel i (L ++ dbS ks num le on lf bound hk sp tk nk R) = some (.next, L ++ dbS ks (dbGo bound sr held num) le' on' lf' bound hk' sp' tk' nk' R') := by
  intro sr
  induction sr with
  | nil =>
    intro i fuel R hk num held le on lf sp tk nk hd hf H hl hlt hn
    obtain ⟨f, rfl⟩ : ∃ f, fuel = f + 1 := ⟨fuel - 1, by omega⟩
    refine ⟨R, hk, le, on, lf, sp, tk, nk, for_end ?_ rfl⟩
    rw [inext_lst (app_get hks), List.getElem?_eq_none (by rw [nts_len]; exact List.drop_eq_nil_iff.mp hd)]
  | cons s sr ih =>
    intro i fuel R hk num held le on lf sp tk nk hd hf H hl hlt hn
    obtain ⟨f, rfl⟩ : ∃ f, fuel = f + 1 := ⟨fuel - 1, by omega⟩
    have hx : ss[i]? = some s := by have := congrArg (·[0]?) hd; simpa using this
    have hd' : ss.drop (i + 1) = sr := by
      have := congrArg (List.drop 1) hd
      simpa [List.drop_drop, Nat.add_comm] using this
    have hs16 := hss s (List.mem_of_getElem? hx)
    have hl2 : (held.length + held.length) * 2 ^ sr.length ≤ 16 := by
      rw [List.length_cons, Nat.pow_succ] at hl
      have : (held.length + held.length) * 2 ^ sr.length = held.length * (2 ^ sr.length * 2) := by rw [← Nat.two_mul, Nat.mul_comm 2, Nat.mul_assoc, Nat.mul_comm 2]
      omega
    have hp : 0 < 2 ^ sr.length := Nat.pow_pos (by omega)
    have hl8 : held.length ≤ 8 := by
      have : (held.length + held.length) * 1 ≤ (held.length + held.length) * 2 ^ sr.length := Nat.mul_le_mul_left _ hp
      omega
    obtain ⟨R', hk', le', on', lf', tk', nk', H', h'⟩ := db_one (ks := ks) (code := code) (bound := bound) (le := le) (on := on) (lf := lf) (tk := tk) (nk := nk) hF hP hV H hl8 hlt hs16 hn
    obtain ⟨R2, hk2, le2, on2, lf2, sp2, tk2, nk2, h2⟩ := ih (i + 1) f R' hk' (numF bound held num s) (held ++ held.map (· ^^^ s)) le' on' lf' (some (.int (s : Int))) tk' nk' hd' (by simp at hf; omega) H' (by rw [xor16_len]; exact hl2) (fun x hx => by
      rcases List.mem_append.mp hx with hx | hx
      · exact hlt x hx
      · obtain ⟨y, hy, rfl⟩ := List.mem_map.mp hx
        exact xor_lt16 (hlt y hy) hs16) (by rw [xor16_len]; exact (numF_lt hl8 hn).2.2)
    refine ⟨R2, hk2, le2, on2, lf2, sp2, tk2, nk2, for_next (x := .int (s : Int)) ?_ (st1 := L ++ dbS ks num le on lf bound hk (some (.int (s : Int))) tk nk R) ?_ h' h2⟩
    · rw [inext_lst (app_get hks), nts_get hx]
    · unfold dbEnv dbS
      simp -implicitDefEqProofs only [ev, ↓reduceIte, Nat.reduceAdd, reduceCtorEq]
theorem db_run {aFi aP aV : Addr} (hF : ∀ (x c : Nat) st, c ≤ 100 → x < 2 ^ 128 → q (.old aFi) [.int (x : Int), .int (c : Int)] [] st = some (.ref st.length, st ++ [.list (nts (digN 16 c x))]))
    (hP : ∀ (g : Nat) st, g < 16 → q (.old aP) [.int (g : Int)] [] st = some (.int (priceF g : Nat), st))
    (hV : ∀ (x b : Nat) st, 0 < b → b < 2 ^ 64 → x < 2 ^ 120 → q (.old aV) [.int (x : Int), .int (b : Int)] [] st = some (.ref st.length, st ++ [.tup [.int (x / b : Nat), .int (x % b : Nat)]]))
    {ss : List Nat} (hks : L[ks]? = some (.list (nts ss))) (hss : ∀ x ∈ ss, x < 16) (hsl : ss.length ≤ 4) :
    ∃ g, dbAct aFi aP aV (cOr blts q) (dbEnv L code) (L ++ [.ns nmDb [some (.ref ks), none, none, none, none], .cell (some (.int bound)), .cell none, .cell none, .cell none, .cell none]) = some (.ret (.int (dbF bound ss : Nat)), L ++ g) := by
  have H0 : At L [.list (nts [0])] (L.length + 6) (.list (nts [0])) := fun a0 a1 a2 a3 a4 a5 G => by rw [getK]; rfl
  have hp4 : ∀ n, n ≤ 4 → 2 ^ n ≤ 16 := fun n hn => by
    have : 2 ^ n ≤ 2 ^ 4 := Nat.pow_le_pow_right (by omega) hn
    omega
  obtain ⟨R', hk', le', on', lf', sp', tk', nk', h'⟩ := db_loop (ks := ks) (code := code) (bound := bound) hF hP hV hks hss ss 0 (ss.length + 1) [.list (nts [0])] (L.length + 6) 0 [0] none none none none none none rfl (by omega) H0 (by have := hp4 _ hsl; simpa using this) (by simp) (by simp)
  refine ⟨dbS ks (dbGo bound ss [0] 0) le' on' lf' bound hk' sp' tk' nk' R', ?_⟩
  have z1 : (1 ≤ 1000) = True := by simp
  unfold dbAct
  refine seqT (st1 := L ++ [.ns nmDb [some (.ref ks), none, none, none, none], .cell (some (.int bound)), .cell (some (.ref (L.length + 6))), .cell none, .cell none, .cell none, .list (nts [0])]) (by unfold dbEnv; simp -implicitDefEqProofs only [ev, ↓reduceIte, Nat.reduceAdd, reduceCtorEq, z1]; rfl) ?_
  refine seqT (st1 := L ++ dbS ks 0 none none none bound (L.length + 6) none none none [.list (nts [0])]) (by unfold dbEnv dbS; simp -implicitDefEqProofs only [ev, ↓reduceIte, Nat.reduceAdd, reduceCtorEq, Int.natCast_zero]; try rfl) ?_
  refine seqT (st1 := L ++ dbS ks (dbGo bound ss [0] 0) le' on' lf' bound hk' sp' tk' nk' R') ?_ ?_
  · have hit : ∀ R : St, itemsAt (L ++ R) ks = some (nts ss) := fun R => by unfold itemsAt; rw [app_get hks]
    have hsrc : iList (bLoc nmDb 0) (dbEnv L code) (L ++ dbS ks 0 none none none bound (L.length + 6) none none none [.list (nts [0])]) = some (.lst ks, L ++ dbS ks 0 none none none bound (L.length + 6) none none none [.list (nts [0])]) := by
      unfold dbEnv dbS
      simp -implicitDefEqProofs only [ev, ↓reduceIte, Nat.reduceAdd, reduceCtorEq, hit]
    unfold xFor
    rw [hsrc, Option.bind_some]
    dsimp only
    rw [isize_lst (app_get hks), nts_len]
    exact h'
  · refine seqR ?_
    unfold dbEnv dbS
    simp -implicitDefEqProofs only [ev, ↓reduceIte, Nat.reduceAdd, reduceCtorEq]
    rfl
end
def sumDb (aDb : Addr) : CallF := fun f args kw st => match f, args, kw with
  | .old a, [.ref k, .int b], [] => (listAt st k).bind fun xs => (natsOf xs).bind fun ss => if a = aDb ∧ ss.length ≤ 4 ∧ ss.all (fun s => decide (s < 16)) = true then some (.int (dbF b ss : Nat), st) else .none
  | _, _, _ => .none
theorem sumDb_at {aDb : Addr} {st : St} {k : Nat} {ss : List Nat} {b : Int} (h : st[k]? = some (.list (nts ss))) (hl : ss.length ≤ 4) (hs : ∀ s ∈ ss, s < 16) : sumDb aDb (.old aDb) [.ref k, .int b] [] st = some (.int (dbF b ss : Nat), st) := by
  show (listAt st k).bind (fun xs => (natsOf xs).bind fun ss => if aDb = aDb ∧ ss.length ≤ 4 ∧ ss.all (fun s => decide (s < 16)) = true then some (AV.int (dbF b ss : Nat), st) else .none) = _
  unfold listAt
  rw [h]
  simp only [Option.bind_some, natsOf_nts]
  rw [if_pos ⟨trivial, hl, by rw [List.all_eq_true]; exact fun s hm => by simpa using hs s hm⟩]
section
variable {prog : Program} {w : World} {mg mb : Str → Option Value} {X : Heap → List TabD → Prop} (S : Sys prog w mg mb X)
theorem db_told {aDb aFi aP aV : Addr} (d : Nat) (hF : S.C d (sumFilled aFi)) (hP : S.C d (sumPrice aP)) (hV : S.C d (sumDp aV)) (hd : aFi ≠ aP ∧ aFi ≠ aV ∧ aP ≠ aV)
    (hp : ∀ c (x y : AV) L, ∃ code, prep S.K (S.R c) 60 aDb [x, y] [] L = some (L, [.ns nmDb [some x, none, none, none, none], .cell (some y), .cell none, .cell none, .cell none, .cell none], [1, 2, 3, 4, 5], code, dbAct aFi aP aV c)) : S.CC (d + 1) (sumDb aDb) := by
  refine S.told (sound_cor hP (sound_cor hV hF)) fun f args kw st r h hw => ?_
  unfold sumDb at h
  split at h
  · rename_i a k b
    obtain ⟨xs, e1, h⟩ := bind2 h
    obtain ⟨ss, e2, h⟩ := bind2 h
    split at h
    · rename_i hc
      cases h
      obtain ⟨rfl, h1, h2⟩ := hc
      have e3 := listAt_some e1
      rw [nts_natsOf e2] at e3
      obtain ⟨code, hp⟩ := hp (cOr blts (cOr (sumPrice aP) (cOr (sumDp aV) (sumFilled aFi)))) (.ref k) (.int b) st
      have noP1 : ∀ (x y : Int) st, sumPrice aP (.old aFi) [.int x, .int y] [] st = none := fun x y st => rfl
      have noP2 : ∀ (x y : Int) st, sumPrice aP (.old aV) [.int x, .int y] [] st = none := fun x y st => rfl
      have noV : ∀ (x y : Int) st, sumDp aV (.old aFi) [.int x, .int y] [] st = none := fun x y st => if_neg (fun h => hd.2.1 h.1)
      obtain ⟨g, hr⟩ := db_run (code := code) (bound := b) (aFi := aFi) (aP := aP) (aV := aV) (q := cOr (sumPrice aP) (cOr (sumDp aV) (sumFilled aFi)))
        (fun x c st a b => cor_r (noP1 _ _ _) (cor_r (noV _ _ _) (sumFilled_at a b)))
        (fun g st h => cor_l (sumPrice_at h))
        (fun x b st a1 a2 a3 => cor_r (noP2 _ _ _) (cor_l (sumDp_at a1 a2 a3))) e3 (fun s hm => by simpa using List.all_eq_true.mp h2 s hm) h1
      exact ⟨_, _, (run_prep hp).trans hr, trim0 hw rfl⟩
    · cases h
  · cases h
end
def low (n : Nat) : AO → Prop
  | .list xs => ∀ x ∈ xs, x.lt n
  | .rlist xs => ∀ x ∈ xs, x.lt n
  | .tup xs => ∀ x ∈ xs, x.lt n
  | .ns _ m => ∀ v, some v ∈ m → v.lt n
  | .cell v => ∀ x, v = some x → x.lt n
  | .fn _ _ _ _ _ _ => False
  | .inst _ d => d < n
  | .dview d => d < n
  | _ => True
theorem lt_no {n k : Nat} {v : AV} (h : v.lt n) (hk : n ≤ k) : v.no k = true ∧ v.ren (down k) = v := by
  cases v with
  | ref j =>
    have h : j < n := h
    refine ⟨?_, ?_⟩
    · show (j != k) = true
      rw [bne_iff_ne]; omega
    · show AV.ref (down k j) = _
      unfold down
      rw [if_pos (by omega)]
  | _ => exact ⟨rfl, rfl⟩
theorem lts_no {n k : Nat} {xs : List AV} (h : ∀ x ∈ xs, x.lt n) (hk : n ≤ k) : xs.all (AV.no k) = true ∧ xs.map (AV.ren (down k)) = xs :=
  ⟨List.all_eq_true.mpr fun x hx => (lt_no (h x hx) hk).1, (List.map_congr_left fun x hx => (lt_no (h x hx) hk).2).trans (List.map_id _)⟩
theorem low_no {n k : Nat} {ao : AO} (h : low n ao) (hk : n ≤ k) : ao.no k = true ∧ ao.ren (down k) = ao := by
  cases ao with
  | list xs => exact ⟨(lts_no h hk).1, congrArg AO.list (lts_no h hk).2⟩
  | rlist xs => exact ⟨(lts_no h hk).1, congrArg AO.rlist (lts_no h hk).2⟩
  | tup xs => exact ⟨(lts_no h hk).1, congrArg AO.tup (lts_no h hk).2⟩
  | ns nm m =>
    have h : ∀ v, some v ∈ m → v.lt n := h
    refine ⟨List.all_eq_true.mpr fun x hx => ?_, congrArg (AO.ns nm) ((List.map_congr_left fun x hx => ?_).trans (List.map_id _))⟩
    · cases x with
      | none => rfl
      | some v => exact (lt_no (h v hx) hk).1
    · cases x with
      | none => rfl
      | some v => exact congrArg some (lt_no (h v hx) hk).2
  | cell v =>
    cases v with
    | none => exact ⟨rfl, rfl⟩
    | some v => exact ⟨(lt_no (h v rfl) hk).1, congrArg (AO.cell ∘ some) (lt_no (h v rfl) hk).2⟩
  | fn => exact h.elim
  | inst C d =>
    have h : d < n := h
    refine ⟨?_, ?_⟩
    · show (d != k) = true
      rw [bne_iff_ne]; omega
    · show AO.inst C (down k d) = _
      unfold down
      rw [if_pos (by omega)]
  | dview d =>
    have h : d < n := h
    refine ⟨?_, ?_⟩
    · show (d != k) = true
      rw [bne_iff_ne]; omega
    · show AO.dview (down k d) = _
      unfold down
      rw [if_pos (by omega)]
  | _ => exact ⟨rfl, rfl⟩
theorem lt_mono {n k : Nat} {v : AV} (h : v.lt n) (hk : n ≤ k) : v.lt k := by
  cases v with
  | ref j => exact Nat.lt_of_lt_of_le h hk
  | _ => exact trivial
theorem low_mono {n k : Nat} {ao : AO} (h : low n ao) (hk : n ≤ k) : low k ao := by
  cases ao with
  | list xs => exact fun x hx => lt_mono (h x hx) hk
  | rlist xs => exact fun x hx => lt_mono (h x hx) hk
  | tup xs => exact fun x hx => lt_mono (h x hx) hk
  | ns nm m => exact fun x hx => lt_mono (h x hx) hk
  | cell v => exact fun x hx => lt_mono (h x hx) hk
  | fn => exact h.elim
  | inst C d => exact Nat.lt_of_lt_of_le h hk
  | dview d => exact Nat.lt_of_lt_of_le h hk
  | _ => exact trivial
theorem flat_lt {n : Nat} {v : AV} (h : v.flat = true) : v.lt n := by
  cases v <;> first | exact trivial | cases h
theorem flats_low {n : Nat} {xs : List AV} (h : xs.all AV.flat = true) : low n (.list xs) := fun x hx => flat_lt (List.all_eq_true.mp h x hx)
def Low (M : St) : Prop := ∀ ao ∈ M, low M.length ao
theorem drop_last {M : St} {ys : List AV} {nm : List Str} {m : List (Option AV)} (h : Low M) (hf : ys.all AV.flat = true) : dropSlot (M.length + 1) (M ++ [.list ys, .ns nm m]) = some (M ++ [.list ys]) := by
  have he : (M ++ [AO.list ys, .ns nm m]).eraseIdx (M.length + 1) = M ++ [.list ys] := by
    rw [List.eraseIdx_append_of_length_le (by omega), Nat.add_sub_cancel_left]
    rfl
  have hall : ∀ ao ∈ M ++ [AO.list ys], ao.no (M.length + 1) = true ∧ ao.ren (down (M.length + 1)) = ao := fun ao hao => by
    rcases List.mem_append.mp hao with hao | hao
    · exact low_no (h ao hao) (by omega)
    · rw [List.mem_singleton.mp hao]
      exact low_no (n := 0) (flats_low hf) (by omega)
  unfold dropSlot
  rw [he, if_pos ⟨by simp, List.all_eq_true.mpr fun ao hao => (hall ao hao).1⟩]
  exact congrArg some ((List.map_congr_left fun ao hao => (hall ao hao).2).trans (List.map_id _))
theorem bComp_drop {run : Act Nat} {ae : AEnv} {st M : St} {ys : List AV} {nm : List Str} {m : List (Option AV)} (h : run ae st = some (M.length, M ++ [.list ys, .ns nm m])) (hL : Low M) (hf : ys.all AV.flat = true) : bComp run ae st = some (.ref M.length, M ++ [.list ys]) := by
  unfold bComp
  rw [h, Option.bind_some]
  split
  · rename_i hc
    obtain ⟨xs, nm', m', e, _⟩ := hc
    have e1 : M.length = st.length := congrArg Prod.fst e
    rw [← e1]
    congr 2
    rw [List.take_append, List.take_of_length_le (by omega), Nat.add_sub_cancel_left]
    rfl
  · rw [if_pos (by unfold isNs; dsimp only; rw [getK]; rfl)]
    dsimp only
    rw [drop_last hL hf]
    rfl
theorem asgComp_drop {run : Act Nat} {t : TAct} {ae : AEnv} {st M M' : St} {ys : List AV} {nm : List Str} {m : List (Option AV)} (h : run ae st = some (M.length, M ++ [.list ys, .ns nm m])) (ht : t (.ref M.length) ae (M ++ [.list ys, .ns nm m]) = some (M' ++ [.list ys, .ns nm m])) (hl : M'.length = M.length) (hL : ∀ ao ∈ M', low (M.length + 1) ao) (hf : ys.all AV.flat = true) : xAsgComp run t ae st = some (.next, M' ++ [.list ys]) := by
  unfold xAsgComp
  rw [h, Option.bind_some]
  dsimp only
  rw [ht, Option.bind_some, ← hl, if_pos (by unfold isNs; rw [getK]; rfl)]
  have he : (M' ++ [AO.list ys, .ns nm m]).eraseIdx (M'.length + 1) = M' ++ [.list ys] := by
    rw [List.eraseIdx_append_of_length_le (by omega), Nat.add_sub_cancel_left]
    rfl
  have hall : ∀ ao ∈ M' ++ [AO.list ys], ao.no (M'.length + 1) = true ∧ ao.ren (down (M'.length + 1)) = ao := fun ao hao => by
    rcases List.mem_append.mp hao with hao | hao
    · exact low_no (hL ao hao) (by omega)
    · rw [List.mem_singleton.mp hao]
      exact low_no (n := 0) (flats_low hf) (by omega)
  unfold dropSlot
  rw [he, if_pos ⟨by simp, List.all_eq_true.mpr fun ao hao => (hall ao hao).1⟩]
  rw [(List.map_congr_left fun ao hao => (hall ao hao).2).trans (List.map_id _)]
  rfl
section
variable {M st0 : St} {it : It} {tst : List (Act Bool)} {e : Act AV} {cs : List Nat} {code : Value} {n0 n1 : Str} {xs : List AV} {f : AV → Option AV}
theorem compRun_gen2 {src : Act It} {sel : List Nat} {ae : AEnv} (hc : ae.code = code) (hsrc : src ae st0 = some (it, M)) (hsel : pick ae.cells sel = some cs) (hsz : isize it M = xs.length) (hin : ∀ i R, inext it i (M ++ R) = some xs[i]?) (hl : xs.length ≤ 1000000)
    (hyes : ∀ x acc, x ∈ xs → ∃ y, f x = some y ∧ testsGo tst ⟨M.length + 1, cs, code⟩ (M ++ [.list acc, .ns [n0, n1] [.none, some x]]) = some (true, M ++ [.list acc, .ns [n0, n1] [.none, some x]]) ∧ e ⟨M.length + 1, cs, code⟩ (M ++ [.list acc, .ns [n0, n1] [.none, some x]]) = some (y, M ++ [.list acc, .ns [n0, n1] [.none, some x]])) :
    ∃ a', compRun src [n0, n1] sel (gLoc [n0, n1] 1) tst (emitApp e) ae st0 = some (M.length, M ++ [.list (xs.filterMap f), .ns [n0, n1] [.none, a']]) := by
  subst hc
  obtain ⟨a', h⟩ := comp_gen (M := M) (f := f) hin hl (fun x acc hx hn => by obtain ⟨y, hy, _⟩ := hyes x acc hx; rw [hn] at hy; cases hy) (fun x y acc hx hy => by
    obtain ⟨y', hy', h⟩ := hyes x acc hx
    rw [hy] at hy'; cases hy'; exact h) xs 0 (xs.length + 1) [] none rfl (by omega) (by simp)
  refine ⟨a', ?_⟩
  unfold compRun
  rw [hsrc, Option.bind_some, hsel, Option.bind_some]
  dsimp only
  rw [hsz]
  rw [List.nil_append] at h
  show (compLp it (gLoc [n0, n1] 1) tst (emitApp e M.length) ⟨M.length + 1, cs, ae.code⟩ (xs.length + 1) 0 (M ++ [.list [], .ns [n0, n1] [none, none]])).bind _ = _
  rw [h]
  rfl
end
theorem num_int' : ∀ a : Fin 18, PySem.intText? (numS a.val) = some (a.val : Int) ∧ numOk (numS a.val) = true ∧ (numS a.val).length ≤ 640 := by decide +kernel
theorem c_int {q : CallF} {st : St} {a : Nat} (h : a < 18) : cOr blts q (.typ "int") [.str (numS a)] [] st = some (.int (a : Int), st) := by
  obtain ⟨h1, _, h3⟩ := num_int' ⟨a, h⟩
  refine cor_l (cor_r rfl (cor_r rfl (cor_l ?_)))
  show (if (numS a).length ≤ 640 then (PySem.intText? (numS a)).map (fun n => (AV.int n, st)) else none) = _
  rw [if_pos h3, h1]
  rfl
theorem sumIfs_num {aF : Addr} {st : St} {a : Nat} (h : a < 18) : sumIfs aF (.old aF) [.str (numS a)] [] st = some (.int (a : Int), st) := by
  obtain ⟨h1, h2, _⟩ := num_int' ⟨a, h⟩
  show (if aF = aF ∧ numOk (numS a) = true then (PySem.intText? (numS a)).map (fun n => (AV.int n, st)) else none) = _
  rw [if_pos ⟨rfl, h2⟩, h1]
  rfl
theorem m_swapS {r : MethF} {s : Str} {st : St} : mOr mStr r (.str s) ("swapcase" : Str) st = some (.blt "str.swapcase", [.str s]) := rfl
theorem c_swap {q : CallF} {st : St} {s : Str} (h : s.length ≤ 1000) : cOr blts q (.blt "str.swapcase") [.str s] [] st = some (.str (Txt.swapcase s), st) := cor_l (cor_r rfl (cor_r rfl (cor_r rfl (cor_r rfl (cor_r rfl (cor_r rfl (cor_r rfl (cor_r rfl (cor_l (if_pos h))))))))))
def nmLaw : List Str := ["script", "small", "bound", "words", "table", "number", "kin", "same"]
def nmLx : List Str := [".0", "x"]
def nmLk : List Str := [".0", "k"]
def nmLn : List Str := [".0", "numeral"]
noncomputable def lw1 : Act AFlow := (xAsgComp (compRun (iList (bSlice (bLoc nmLaw 0) (bVal .none) (bVal (.int 12)))) nmLx [] (gLoc nmLx 1) [] (emitApp (bBin .Mod (bLoc nmLx 1) (bVal (.int 16))))) (gLoc nmLaw 1))
noncomputable def lw2 (aSt : Addr) (c : CallF) : Act AFlow := (xAsg (bCall c (bVal (.old aSt)) (lCons (bLoc nmLaw 1) (lCons (bIte (tCmp .Gt (bCall c (bVal (.blt "len")) (lCons (bLoc nmLaw 0) lNil) kNil) (bVal (.int 3))) (bVal (.int 4)) (bVal (.int 3))) lNil)) kNil) [(gCell 0)])
noncomputable def lw3 (c : CallF) : Act AFlow := (xAsg (bBin .Mod (bBin .Add (bCall c (bVal (.blt "sum")) (lCons (bLoc nmLaw 1) lNil) kNil) (bVal (.int 2))) (bVal (.int 4))) [(gLoc nmLaw 2)])
noncomputable def lw4 (aWo : Addr) (c : CallF) : Act AFlow := (xAsgComp (compRun (iCall (bVal (.typ "range")) (lCons (bBin .Pow (bVal (.int 2)) (bCall c (bVal (.blt "len")) (lCons (bCell 0) lNil) kNil)) lNil)) nmLk [0] (gLoc nmLk 1) [] (emitApp (bCall c (bVal (.old aWo)) (lCons (bLoc nmLk 1) (lCons (bCell 0) lNil)) kNil))) (gLoc nmLaw 3))
noncomputable def lw5 (aCo : Addr) (c : CallF) : Act AFlow := (xAsg (bCall c (bVal (.old aCo)) (lCons (bLoc nmLaw 3) (lCons (bLoc nmLaw 2) lNil)) kNil) [(gLoc nmLaw 4)])
structure LawQ (q : CallF) (m : MethF) (aSt aWo aCo aIf aDb aDi aFi C : Addr) (hn : List Str) (aK aV aG : Addr) : Prop where
  st : ∀ {st : St} {k n : Nat} {sm : List Nat}, st[k]? = some (.list (nts sm)) → 0 < n → n ≤ 4 → sm.length ≤ 100 → q (.old aSt) [.ref k, .int (n : Int)] [] st = some (.ref st.length, st ++ [.list (nts (stepsF sm n))])
  wo : ∀ {st : St} {k ks : Nat} {ss : List Nat}, st[ks]? = some (.list (nts ss)) → dlen k 1 ≤ ss.length → ss.length ≤ 100 → (∀ s ∈ ss, s < 16) → q (.old aWo) [.int (k : Int), .ref ks] [] st = some (.str (sx (wordL (heldF ss k))), st)
  co : ∀ {st : St} {wk : Nat} {bound : Int} {words : List (List Nat)}, st[wk]? = some (.list (strsV (words.map sx))) → (∀ w ∈ words, w.length = 2) → (∀ w ∈ words, okS (sx w) = true) → words.length ≤ 16 → q (.old aCo) [.ref wk, .int bound] [] st = some (.ref (st.length + 2), st ++ tabOf C hn st.length (itemsOf words (colF bound words)))
  fs : ∀ {st : St} {a : Nat}, a < 18 → q (.old aIf) [.str (numS a)] [] st = some (.int (a : Int), st)
  db : ∀ {st : St} {k : Nat} {ss : List Nat} {b : Int}, st[k]? = some (.list (nts ss)) → ss.length ≤ 4 → (∀ s ∈ ss, s < 16) → q (.old aDb) [.ref k, .int b] [] st = some (.int (dbF b ss : Nat), st)
  di : ∀ {st : St} {k : Nat} {ds : List Nat}, st[k]? = some (.list (nts ds)) → ds.length ≤ 128 → (∀ x ∈ ds, x < 16) → q (.old aDi) [.ref k, .int 4] [] st = some (.int (valN 16 ds : Nat), st)
  fi : ∀ {st : St} {x c : Nat}, c ≤ 100 → x < 2 ^ 128 → q (.old aFi) [.int (x : Int), .int (c : Int)] [] st = some (.ref st.length, st ++ [.list (nts (digN 16 c x))])
  ks : ∀ {st : St} {k d l : Nat} {ts : List Nat} {items : List (Str × Str)}, HdrAt C hn st k d l ts items → ts.length ≤ 1000 → q (.old aK) [.ref k] [] st = some (.ref st.length, st ++ [.list (items.map fun p => .str p.1)])
  vs : ∀ {st : St} {k d l : Nat} {ts : List Nat} {items : List (Str × Str)}, HdrAt C hn st k d l ts items → ts.length ≤ 1000 → q (.old aV) [.ref k] [] st = some (.ref st.length, st ++ [.list (items.map fun p => .str p.2)])
  ga : ∀ {st : St} {k d l : Nat} {ts : List Nat} {items : List (Str × Str)} {nm : Str}, HdrAt C hn st k d l ts items → ts.length ≤ 1000 → okS (Txt.lower nm) = true → nm.length ≤ 1000 → (Txt.lower nm).length ≤ 1000 → (∀ p ∈ items, p.1.length ≤ 1000) → q (.old aG) [.ref k, .str nm] [] st = some (.ref st.length, st ++ [.list (strsV (getAllF items (Txt.lower nm)))])
  mK : HdrMeth C hn m "keys" aK
  mV : HdrMeth C hn m "values" aV
  mG : HdrMeth C hn m "get_all" aG
def smallF (is : List Int) : List Nat := (is.take 12).map fun x => (x % 16).toNat
def cntF (is : List Int) : Nat := if is.length > 3 then 4 else 3
def boundF (sm : List Nat) : Nat := (sm.sum + 2) % 4
def wordsF (ss : List Nat) : List (List Nat) := (List.range (2 ^ ss.length)).map fun k => wordL (heldF ss k)
def lawS (xs : List AV) (v1 v2 v3 v4 v5 v6 v7 c0 c1 c2 : Option AV) (R : St) : St := .rlist xs :: .ns nmLaw [some (.ref 0), v1, v2, v3, v4, v5, v6, v7] :: .cell c0 :: .cell c1 :: .cell c2 :: R
def lawEnv (code : Value) : AEnv := ⟨1, [2, 3, 4], code⟩
theorem aslice_r {st : St} {k c : Nat} {xs : List AV} (h : st[k]? = some (.rlist xs)) (hl : xs.length ≤ 1000) : aslice (.ref k) .none (.int (c : Int)) st = some (.ref st.length, st ++ [.list (xs.take c)]) := by
  unfold aslice partOf
  simp only [Option.bind_some, h]
  rw [if_pos hl]
  have e : clipAt xs.length (c : Int) = min c xs.length := by
    have := clipAt_cast xs.length (c : Int)
    rw [if_neg (by omega)] at this
    omega
  have e2 : xs.take (min c xs.length) = xs.take c := by
    rw [← List.take_take, List.take_length]
  simp [e, e2]
theorem ints_flat (is : List Int) : (is.map AV.int).all AV.flat = true := by
  rw [List.all_eq_true]
  intro x hx
  obtain ⟨y, _, rfl⟩ := List.mem_map.mp hx
  rfl
section
variable {is : List Int} {code : Value} {q : CallF} {r0 : MethF} {aSt aWo aCo aIf aDb aDi aFi C : Addr} {hn : List Str} {aK aV aG : Addr}
theorem lw1_run (hl : is.length ≤ 1000) : lw1 (lawEnv code) (lawS (is.map .int) none none none none none none none none none none []) = some (.next, lawS (is.map .int) (some (.ref 6)) none none none none none none none none none [.list ((is.take 12).map .int), .list (nts (smallF is))]) := by
  have hit : ∀ R : St, itemsAt (lawS (is.map .int) none none none none none none none none none none [.list ((is.take 12).map .int)] ++ R) 5 = some ((is.take 12).map .int) := fun R => rfl
  have hsl : aslice (.ref 0) .none (.int 12) (lawS (is.map .int) none none none none none none none none none none []) = some (.ref 5, lawS (is.map .int) none none none none none none none none none none [.list ((is.take 12).map .int)]) := by
    have := aslice_r (c := 12) (st := lawS (is.map .int) none none none none none none none none none none []) (k := 0) (xs := is.map .int) rfl (by rw [List.length_map]; exact hl)
    rw [← List.map_take] at this
    exact this
  have hsrc : iList (bSlice (bLoc nmLaw 0) (bVal .none) (bVal (.int 12))) (lawEnv code) (lawS (is.map .int) none none none none none none none none none none []) = some (.lst 5, lawS (is.map .int) none none none none none none none none none none [.list ((is.take 12).map .int)]) := by
    have h0 := hit []
    rw [List.append_nil] at h0
    have hb : bLoc nmLaw 0 (lawEnv code) (lawS (is.map .int) none none none none none none none none none none []) = some (.ref 0, lawS (is.map .int) none none none none none none none none none none []) := rfl
    simp -implicitDefEqProofs only [iList, bSlice, bVal, hb, hsl, h0, Option.bind_some, Option.map_some, Option.isSome_some, if_true]
  have hf : ((is.take 12).map AV.int).filterMap (fun x => match x with | .int y => some (.int ((y % 16).toNat : Nat)) | _ => none) = nts (smallF is) := by
    unfold nts smallF
    rw [List.filterMap_map, List.map_map]
    exact List.filterMap_eq_map ▸ rfl
  obtain ⟨a', h⟩ := compRun_gen2 (n0 := ".0") (n1 := "x") (tst := []) (e := bBin .Mod (bLoc nmLx 1) (bVal (.int 16))) (cs := []) (sel := []) (code := code) (f := fun x => match x with | .int y => some (.int ((y % 16).toNat : Nat)) | _ => none) (xs := (is.take 12).map .int) rfl hsrc rfl rfl (fun i R => inext_lst rfl) (by simp; omega) (fun x acc hx => by
    obtain ⟨y, hy, rfl⟩ := List.mem_map.mp hx
    refine ⟨_, rfl, rfl, ?_⟩
    have e : y.fmod 16 = ((y % 16).toNat : Int) := by
      rw [Int.fmod_eq_emod_of_nonneg _ (by omega)]; omega
    have e0 : ((16 : Int) ≠ 0) = True := by simp
    unfold nmLx
    simp -implicitDefEqProofs only [ev, ↓reduceIte, Nat.reduceAdd, reduceCtorEq, e0, e])
  rw [hf] at h
  exact asgComp_drop (M' := lawS (is.map .int) (some (.ref 6)) none none none none none none none none none [.list ((is.take 12).map .int)]) h rfl rfl (fun ao hao => by
    unfold lawS at hao
    simp only [List.mem_cons, List.not_mem_nil, or_false] at hao
    rcases hao with rfl | rfl | rfl | rfl | rfl | rfl
    · exact flats_low (ints_flat is)
    · intro v hv
      simp only [List.mem_cons, Option.some.injEq, reduceCtorEq, List.not_mem_nil, or_false] at hv
      rcases hv with rfl | rfl <;> (show _ < _; simp [lawS])
    · intro v hv; cases hv
    · intro v hv; cases hv
    · intro v hv; cases hv
    · exact flats_low (ints_flat _)) (nts_flat _)
end
theorem c_lenI {q : CallF} {st : St} {k : Nat} {xs : List AV} (h : itemsAt st k = some xs) (h2 : xs.length ≤ 1000000) : cOr blts q (.blt "len") [.ref k] [] st = some (.int (xs.length : Int), st) := by
  have : cLen (.blt "len") [.ref k] [] st = some (.int (xs.length : Int), st) := by
    show (itemsAt st k).bind _ = _
    rw [h, Option.bind_some, if_pos h2]
  exact cor_l (cor_l this)
theorem word_lt : ∀ h : Fin 16, (wordL h.val).length = 2 ∧ okS (sx (wordL h.val)) = true := by decide +kernel
theorem heldF_lt {ss : List Nat} {k : Nat} (hs : ∀ s ∈ ss, s < 16) : heldF ss k < 16 := heldGo_lt _ _ 0 (by omega) hs
theorem smallF_lt (is : List Int) : ∀ x ∈ smallF is, x < 16 := fun x hx => by
  unfold smallF at hx
  obtain ⟨y, _, rfl⟩ := List.mem_map.mp hx
  omega
theorem smallF_len (is : List Int) : (smallF is).length ≤ 12 := by unfold smallF; simp; omega
theorem cntF_le (is : List Int) : 0 < cntF is ∧ cntF is ≤ 4 := by unfold cntF; split <;> omega
theorem sum_nat : ∀ (l : List Nat), (l.map Int.ofNat).sum = ((l.sum : Nat) : Int)
  | [] => rfl
  | a :: l => by
    rw [List.map_cons, List.sum_cons, List.sum_cons, sum_nat l, Int.natCast_add]; rfl
theorem wordsF_ok {ss : List Nat} (hs : ∀ s ∈ ss, s < 16) : (∀ w ∈ wordsF ss, w.length = 2) ∧ (∀ w ∈ wordsF ss, okS (sx w) = true) := by
  refine ⟨fun w hw => ?_, fun w hw => ?_⟩
  all_goals
    unfold wordsF at hw
    obtain ⟨k, _, rfl⟩ := List.mem_map.mp hw
  · exact (word_lt ⟨_, heldF_lt hs⟩).1
  · exact (word_lt ⟨_, heldF_lt hs⟩).2
theorem wordsF_len (ss : List Nat) : (wordsF ss).length = 2 ^ ss.length := by unfold wordsF; simp
section
variable {is : List Int} {code : Value} {q : CallF} {r0 : MethF} {aSt aWo aCo aIf aDb aDi aFi C : Addr} {hn : List Str} {aK aV aG : Addr} (Q : LawQ q (mOr mStr r0) aSt aWo aCo aIf aDb aDi aFi C hn aK aV aG)
include Q
theorem lw2_run {a : AO} {sm : List Nat} (hl : is.length ≤ 1000) (hs : sm.length ≤ 100) : lw2 aSt (cOr blts q) (lawEnv code) (lawS (is.map .int) (some (.ref 6)) none none none none none none none none none [a, .list (nts sm)]) = some (.next, lawS (is.map .int) (some (.ref 6)) none none none none none none (some (.ref 7)) none none [a, .list (nts sm), .list (nts (stepsF sm (cntF is)))]) := by
  obtain ⟨h0, h4⟩ := cntF_le is
  have hst : q (.old aSt) [.ref 6, .int (cntF is : Int)] [] (lawS (is.map .int) (some (.ref 6)) none none none none none none none none none [a, .list (nts sm)]) = some (.ref 7, lawS (is.map .int) (some (.ref 6)) none none none none none none none none none [a, .list (nts sm), .list (nts (stepsF sm (cntF is)))]) := Q.st rfl h0 h4 hs
  have hlen : cOr blts q (.blt "len") [.ref 0] [] (lawS (is.map .int) (some (.ref 6)) none none none none none none none none none [a, .list (nts sm)]) = some (.int (is.length : Int), lawS (is.map .int) (some (.ref 6)) none none none none none none none none none [a, .list (nts sm)]) := by
    have := c_lenI (q := q) (st := lawS (is.map .int) (some (.ref 6)) none none none none none none none none none [a, .list (nts sm)]) (k := 0) (xs := is.map .int) rfl (by rw [List.length_map]; omega)
    rwa [List.length_map] at this
  unfold lw2 lawEnv
  unfold lawS at hst hlen ⊢
  by_cases hc : is.length > 3
  · have e : cntF is = 4 := if_pos hc
    have d : decide ((is.length : Int) > 3) = true := decide_eq_true (by omega)
    rw [e] at hst ⊢
    have hst' : ∀ S r, q (.old aSt) [.ref 6, .int ((4 : Nat) : Int)] [] S = r → q (.old aSt) [.ref 6, .int 4] [] S = r := fun _ _ h => h
    simp -implicitDefEqProofs only [ev, ↓reduceIte, Nat.reduceAdd, reduceCtorEq, hlen, d, c_old, hst' _ _ hst]
  · have e : cntF is = 3 := if_neg hc
    have d : decide ((is.length : Int) > 3) = false := decide_eq_false (by omega)
    rw [e] at hst ⊢
    have hst' : ∀ S r, q (.old aSt) [.ref 6, .int ((3 : Nat) : Int)] [] S = r → q (.old aSt) [.ref 6, .int 3] [] S = r := fun _ _ h => h
    simp -implicitDefEqProofs only [ev, ↓reduceIte, Nat.reduceAdd, reduceCtorEq, hlen, d, c_old, hst' _ _ hst]
omit Q in
theorem lw3_run {a b : AO} {sm : List Nat} {xs : List AV} : lw3 (cOr blts q) (lawEnv code) (lawS xs (some (.ref 6)) none none none none none none (some (.ref 7)) none none [a, .list (nts sm), b]) = some (.next, lawS xs (some (.ref 6)) (some (.int (boundF sm : Nat))) none none none none none (some (.ref 7)) none none [a, .list (nts sm), b]) := by
  have hsum : cOr blts q (.blt "sum") [.ref 6] [] (lawS xs (some (.ref 6)) none none none none none none (some (.ref 7)) none none [a, .list (nts sm), b]) = some (.int (sm.sum : Nat), lawS xs (some (.ref 6)) none none none none none none (some (.ref 7)) none none [a, .list (nts sm), b]) := by
    rw [c_sumL (xs := nts sm) rfl (intsOf_nts _), sum_nat]
  have e0 : ((4 : Int) ≠ 0) = True := by simp
  have e1 : ((sm.sum : Nat) : Int) + 2 = ((sm.sum + 2 : Nat) : Int) := by omega
  have e2 : ((sm.sum + 2 : Nat) : Int).fmod 4 = ((boundF sm : Nat) : Int) := fmod_nat _ 4
  unfold lw3 lawEnv
  unfold lawS at hsum ⊢
  simp -implicitDefEqProofs only [ev, ↓reduceIte, Nat.reduceAdd, reduceCtorEq, hsum, e0, e1, e2]
theorem lw4_run {a b : AO} {ss : List Nat} {bd : Int} (hss : ss.length ≤ 4) (hs : ∀ s ∈ ss, s < 16) (ha : low 0 a) (hb : low 0 b) : lw4 aWo (cOr blts q) (lawEnv code) (lawS (is.map .int) (some (.ref 6)) (some (.int bd)) none none none none none (some (.ref 7)) none none [a, b, .list (nts ss)]) = some (.next, lawS (is.map .int) (some (.ref 6)) (some (.int bd)) (some (.ref 8)) none none none none (some (.ref 7)) none none [a, b, .list (nts ss), .list (strsV ((wordsF ss).map sx))]) := by
  have hp : 2 ^ ss.length ≤ 16 := by
    have : 2 ^ ss.length ≤ 2 ^ 4 := Nat.pow_le_pow_right (by omega) hss
    omega
  have hlen : cOr blts q (.blt "len") [.ref 7] [] (lawS (is.map .int) (some (.ref 6)) (some (.int bd)) none none none none none (some (.ref 7)) none none [a, b, .list (nts ss)]) = some (.int (ss.length : Int), lawS (is.map .int) (some (.ref 6)) (some (.int bd)) none none none none none (some (.ref 7)) none none [a, b, .list (nts ss)]) := by
    have := c_lenI (q := q) (st := lawS (is.map .int) (some (.ref 6)) (some (.int bd)) none none none none none (some (.ref 7)) none none [a, b, .list (nts ss)]) (k := 7) (xs := nts ss) rfl (by rw [nts_len]; omega)
    rwa [nts_len] at this
  have hrb := rng_nat (n := 2 ^ ss.length) (by omega)
  have e1 : (2 : Int) ^ ((ss.length : Nat) : Int).toNat = ((2 ^ ss.length : Nat) : Int) := by rw [Int.toNat_natCast, Int.natCast_pow]; rfl
  have hb2 : Builtin.Int.intBits (2 : Int) ≤ 2 := intBits_le (x := 2) (k := 2) (by omega)
  have e2 : (0 ≤ ((ss.length : Nat) : Int) ∧ (Builtin.Int.intBits (2 : Int) : Int) * ((ss.length : Nat) : Int) ≤ 2 ^ 27) = True := eq_true ⟨by omega, by
    have : Builtin.Int.intBits (2 : Int) * ss.length ≤ 2 * 4 := Nat.mul_le_mul hb2 hss
    have e : (Builtin.Int.intBits (2 : Int) : Int) * ((ss.length : Nat) : Int) = ((Builtin.Int.intBits (2 : Int) * ss.length : Nat) : Int) := by rw [Int.natCast_mul]
    rw [e]; omega⟩
  have hsrc : iCall (bVal (.typ "range")) (lCons (bBin .Pow (bVal (.int 2)) (bCall (cOr blts q) (bVal (.blt "len")) (lCons (bCell 0) lNil) kNil)) lNil) (lawEnv code) (lawS (is.map .int) (some (.ref 6)) (some (.int bd)) none none none none none (some (.ref 7)) none none [a, b, .list (nts ss)]) = some (.rng 0 1 (2 ^ ss.length), lawS (is.map .int) (some (.ref 6)) (some (.int bd)) none none none none none (some (.ref 7)) none none [a, b, .list (nts ss)]) := by
    unfold lawEnv
    unfold lawS at hlen ⊢
    simp -implicitDefEqProofs only [ev, ↓reduceIte, Nat.reduceAdd, reduceCtorEq, hlen, e1, e2, hrb.1, hrb.2]
  have hf : (nts (List.range (2 ^ ss.length))).filterMap (fun x => match x with | .int y => some (.str (sx (wordL (heldF ss y.toNat)))) | _ => none) = strsV ((wordsF ss).map sx) := by
    unfold nts wordsF strsV
    rw [List.filterMap_map, List.map_map, List.map_map]
    exact List.filterMap_eq_map ▸ rfl
  obtain ⟨a', h⟩ := compRun_gen2 (n0 := ".0") (n1 := "k") (tst := []) (e := (bCall (cOr blts q) (bVal (.old aWo)) (lCons (bLoc nmLk 1) (lCons (bCell 0) lNil)) kNil)) (cs := [2]) (sel := [0]) (code := code) (f := fun x => match x with | .int y => some (.str (sx (wordL (heldF ss y.toNat)))) | _ => none) (xs := nts (List.range (2 ^ ss.length))) rfl hsrc rfl (by rw [nts_len, List.length_range]; rfl) (fun i R => rng_in i) (by rw [nts_len, List.length_range]; omega) (fun x acc hx => by
    obtain ⟨k, hk, rfl⟩ := nts_mem hx
    have hk := List.mem_range.mp hk
    refine ⟨_, rfl, rfl, ?_⟩
    have hw := fun acc : List AV => Q.wo (st := lawS (is.map .int) (some (.ref 6)) (some (.int bd)) none none none none none (some (.ref 7)) none none [a, b, .list (nts ss)] ++ [.list acc, .ns [".0", "k"] [none, some (.int (k : Int))]]) (k := k) (ks := 7) (ss := ss) rfl (dlen_le (by omega) hk) (by omega) hs
    have hl8 : (lawS (is.map .int) (some (.ref 6)) (some (.int bd)) none none none none none (some (.ref 7)) none none [a, b, .list (nts ss)]).length = 8 := rfl
    rw [hl8]
    unfold nmLk
    unfold lawS at hw ⊢
    simp -implicitDefEqProofs only [ev, ↓reduceIte, Nat.reduceAdd, reduceCtorEq, c_old, Int.toNat_natCast]
    simp -implicitDefEqProofs only [List.cons_append, List.nil_append] at hw
    simp -implicitDefEqProofs only [ev, ↓reduceIte, Nat.reduceAdd, reduceCtorEq, hw])
  rw [hf] at h
  have hfl : (strsV ((wordsF ss).map sx)).all AV.flat = true := strsV_flat _
  exact asgComp_drop (M' := lawS (is.map .int) (some (.ref 6)) (some (.int bd)) (some (.ref 8)) none none none none (some (.ref 7)) none none [a, b, .list (nts ss)]) h rfl rfl (fun ao hao => by
    unfold lawS at hao
    simp only [List.mem_cons, List.not_mem_nil, or_false] at hao
    rcases hao with rfl | rfl | rfl | rfl | rfl | rfl | rfl | rfl
    · exact flats_low (ints_flat is)
    · intro v hv
      simp only [List.mem_cons, Option.some.injEq, reduceCtorEq, List.not_mem_nil, or_false, false_or] at hv
      rcases hv with rfl | rfl | rfl | rfl
      · show _ < _; simp [lawS]
      · show _ < _; simp [lawS]
      · exact trivial
      · show _ < _; simp [lawS]
    · intro v hv; cases hv; show _ < _; simp [lawS]
    · intro v hv; cases hv
    · intro v hv; cases hv
    · exact low_mono ha (Nat.zero_le _)
    · exact low_mono hb (Nat.zero_le _)
    · exact flats_low (nts_flat _)) hfl
theorem lw5_run {a b c : AO} {xs : List AV} {words : List (List Nat)} {bd : Int} (hw2 : ∀ w ∈ words, w.length = 2) (hwo : ∀ w ∈ words, okS (sx w) = true) (hwl : words.length ≤ 16) :
    lw5 aCo (cOr blts q) (lawEnv code) (lawS xs (some (.ref 6)) (some (.int bd)) (some (.ref 8)) none none none none (some (.ref 7)) none none [a, b, c, .list (strsV (words.map sx))]) = some (.next, lawS xs (some (.ref 6)) (some (.int bd)) (some (.ref 8)) (some (.ref 11)) none none none (some (.ref 7)) none none ([a, b, c, .list (strsV (words.map sx))] ++ tabOf C hn 9 (itemsOf words (colF bd words)))) := by
  have hc : q (.old aCo) [.ref 8, .int bd] [] (lawS xs (some (.ref 6)) (some (.int bd)) (some (.ref 8)) none none none none (some (.ref 7)) none none [a, b, c, .list (strsV (words.map sx))]) = some (.ref 11, lawS xs (some (.ref 6)) (some (.int bd)) (some (.ref 8)) none none none none (some (.ref 7)) none none ([a, b, c, .list (strsV (words.map sx))] ++ tabOf C hn 9 (itemsOf words (colF bd words)))) := Q.co rfl hw2 hwo hwl
  unfold lw5 lawEnv
  unfold lawS at hc ⊢
  simp -implicitDefEqProofs only [ev, ↓reduceIte, Nat.reduceAdd, reduceCtorEq]
  simp -implicitDefEqProofs only [List.cons_append, List.nil_append] at hc
  simp -implicitDefEqProofs only [ev, ↓reduceIte, Nat.reduceAdd, reduceCtorEq, hc, c_old]
end
noncomputable def lw6 (aIf : Addr) (c : CallF) (m : MethF) : Act AFlow := (xAsg (bComp (compRun (iList (bMeth c m (bLoc nmLaw 4) ("values" : Str) lNil kNil)) nmLn [] (gLoc nmLn 1) [] (emitApp (bCall c (bVal (.old aIf)) (lCons (bLoc nmLn 1) lNil) kNil)))) [(gCell 2)])
noncomputable def lw7 (aDb : Addr) (c : CallF) : Act AFlow := (xAsg (bCall c (bVal (.old aDb)) (lCons (bCell 0) (lCons (bLoc nmLaw 2) lNil)) kNil) [(gLoc nmLaw 5)])
noncomputable def lw8 (aDi : Addr) (c : CallF) (m : MethF) : Act AFlow := (xIf (tOr (tCmp .NotEq (bMeth c m (bLoc nmLaw 4) ("keys" : Str) lNil kNil) (bLoc nmLaw 3)) (tOr (tCmp .Lt (bLoc nmLaw 5) (bVal (.int 0))) (tOr (tCmp .NotEq (bCall c (bVal (.old aDi)) (lCons (bCell 2) (lCons (bVal (.int 4)) lNil)) kNil) (bLoc nmLaw 5)) tFalse))) (xSeq (xRet (bVal (.bool false)))
  xPass) xPass)
noncomputable def lw9 (aFi : Addr) (c : CallF) : Act AFlow := (xIf (tCmp .NotEq (bCall c (bVal (.old aFi)) (lCons (bLoc nmLaw 5) (lCons (bCall c (bVal (.blt "len")) (lCons (bLoc nmLaw 3) lNil) kNil) lNil)) kNil) (bCell 2)) (xSeq (xRet (bVal (.bool false)))
  xPass) xPass)
noncomputable def lw10 (c : CallF) (m : MethF) : Act AFlow := (xAsg (bCall c (bVal (.blt "sorted")) (lCons (bComp (compRun (iList (bMeth c m (bLoc nmLaw 4) ("get_all" : Str) (lCons (bVal (.str ("AC" : Str))) lNil) kNil)) nmLn [] (gLoc nmLn 1) [] (emitApp (bCall c (bVal (.typ "int")) (lCons (bLoc nmLn 1) lNil) kNil)))) lNil) kNil) [(gLoc nmLaw 6)])
noncomputable def lwIn (c : CallF) (m : MethF) : Act AFlow := (xSeq (xAsg (bMeth c m (bLoc nmLaw 4) ("get_all" : Str) (lCons (bMeth c m (bItem (bLoc nmLaw 3) (bCell 1)) ("swapcase" : Str) lNil kNil) lNil) kNil) [(gLoc nmLaw 7)])
  (xSeq (xIf (tCmp .NotEq (bCall c (bVal (.blt "sorted")) (lCons (bComp (compRun (iList (bLoc nmLaw 7)) nmLn [2, 1] (gLoc nmLn 1) [] (emitApp (bBin .BitXor (bCall c (bVal (.typ "int")) (lCons (bLoc nmLn 1) lNil) kNil) (bItem (bCell 0) (bCell 1)))))) lNil) kNil) (bLoc nmLaw 6)) (xSeq (xRet (bVal (.bool false)))
  xPass) xPass)
  xPass))
noncomputable def lawAct (aSt aWo aCo aIf aDb aDi aFi : Addr) (c : CallF) (m : MethF) : Act AFlow := xSeq lw1 (xSeq (lw2 aSt c) (xSeq (lw3 c) (xSeq (lw4 aWo c) (xSeq (lw5 aCo c) (xSeq (lw6 aIf c m) (xSeq (lw7 aDb c) (xSeq (lw8 aDi c m) (xSeq (lw9 aFi c) (xSeq (lw10 c m)
  (xSeq (xFor (iCall (bVal (.typ "range")) (lCons (bCall c (bVal (.blt "len")) (lCons (bLoc nmLaw 3) lNil) kNil) lNil)) (gCell 1) (lwIn c m) xPass)
  (xSeq (xRet (bVal (.bool true)))
  xPass)))))))))))
def At5 (R : St) (k : Nat) (ob : AO) : Prop := ∀ (a0 a1 a2 a3 a4 : AO) (G : St), (a0 :: a1 :: a2 :: a3 :: a4 :: (R ++ G))[k]? = some ob
theorem At5.app {R : St} {k : Nat} {ob : AO} (h : At5 R k ob) (X : St) : At5 (R ++ X) k ob := fun a0 a1 a2 a3 a4 G => by rw [List.append_assoc]; exact h ..
theorem At5.zero {R : St} {k : Nat} {ob : AO} (h : At5 R k ob) (a0 a1 a2 a3 a4 : AO) : (a0 :: a1 :: a2 :: a3 :: a4 :: R)[k]? = some ob := by have := h a0 a1 a2 a3 a4 []; rwa [List.append_nil] at this
theorem At5.last {R : St} {ob : AO} : At5 (R ++ [ob]) (R.length + 5) ob := fun a0 a1 a2 a3 a4 G => by
  rw [List.append_assoc]
  show (R ++ ([ob] ++ G))[R.length]? = _
  rw [getA]; rfl
def Hd5 (C : Addr) (hn : List Str) (R : St) (ts : List Nat) (items : List (Str × Str)) : Prop := ∀ (a0 a1 a2 a3 a4 : AO) (G : St), HdrAt C hn (a0 :: a1 :: a2 :: a3 :: a4 :: (R ++ G)) 11 10 9 ts items
theorem Hd5.app {C : Addr} {hn : List Str} {R : St} {ts : List Nat} {items : List (Str × Str)} (h : Hd5 C hn R ts items) (X : St) : Hd5 C hn (R ++ X) ts items := fun a0 a1 a2 a3 a4 G => by rw [List.append_assoc]; exact h ..
theorem Hd5.zero {C : Addr} {hn : List Str} {R : St} {ts : List Nat} {items : List (Str × Str)} (h : Hd5 C hn R ts items) (a0 a1 a2 a3 a4 : AO) : HdrAt C hn (a0 :: a1 :: a2 :: a3 :: a4 :: R) 11 10 9 ts items := by have := h a0 a1 a2 a3 a4 []; rwa [List.append_nil] at this
def LS (is : List Int) (bd : Int) (v5 v6 v7 c1 c2 : Option AV) (R : St) : St := lawS (is.map .int) (some (.ref 6)) (some (.int bd)) (some (.ref 8)) (some (.ref 11)) v5 v6 v7 (some (.ref 7)) c1 c2 R
def twinL (words : List (List Nat)) (cols : List Nat) (ln : Str) : List Nat := ((words.zip cols).filter fun p => decide (Txt.lower (sx p.1) = ln)).map (·.2)
theorem getAll_items (words : List (List Nat)) (cols : List Nat) (ln : Str) : strsV (getAllF (itemsOf words cols) ln) = (twinL words cols ln).map fun c => AV.str (numS c) := by
  unfold strsV getAllF itemsOf twinL
  rw [List.filter_map, List.map_map, List.map_map, List.map_map]
  rfl
theorem twinL_mem {words : List (List Nat)} {cols : List Nat} {ln : Str} {c : Nat} (h : c ∈ twinL words cols ln) : c ∈ cols := by
  unfold twinL at h
  obtain ⟨p, hp, rfl⟩ := List.mem_map.mp h
  exact (List.of_mem_zip (List.mem_filter.mp hp).1).2
theorem twinL_len {words : List (List Nat)} {cols : List Nat} {ln : Str} : (twinL words cols ln).length ≤ words.length := by
  unfold twinL
  rw [List.length_map]
  refine Nat.le_trans (List.length_filter_le _ _) ?_
  rw [List.length_zip]; omega
theorem items_vals {words : List (List Nat)} {cols : List Nat} (h : cols.length = words.length) : ((itemsOf words cols).map fun p => AV.str p.2) = cols.map fun c => AV.str (numS c) := by
  unfold itemsOf
  rw [List.map_map]
  show List.map ((fun c => AV.str (numS c)) ∘ Prod.snd) _ = _
  rw [← List.map_map, List.map_snd_zip (by omega)]
theorem items_keys {words : List (List Nat)} {cols : List Nat} (h : cols.length = words.length) : ((itemsOf words cols).map fun p => AV.str p.1) = strsV (words.map sx) := by
  unfold itemsOf strsV
  rw [List.map_map, List.map_map]
  show List.map ((AV.str ∘ sx) ∘ Prod.fst) _ = _
  rw [← List.map_map, List.map_fst_zip (by omega)]
section
variable {is : List Int} {code : Value} {q : CallF} {r0 : MethF} {aSt aWo aCo aIf aDb aDi aFi C : Addr} {hn : List Str} {aK aV aG : Addr} (Q : LawQ q (mOr mStr r0) aSt aWo aCo aIf aDb aDi aFi C hn aK aV aG)
variable {R : St} {ts : List Nat} {words : List (List Nat)} {cols ss : List Nat} {bd : Int} {v5 v6 v7 c1 c2 : Option AV}
theorem LS_len : (LS is bd v5 v6 v7 c1 c2 R).length = R.length + 5 := by unfold LS lawS; rfl
theorem LS_app {X : St} : LS is bd v5 v6 v7 c1 c2 R ++ X = LS is bd v5 v6 v7 c1 c2 (R ++ X) := rfl
theorem LS_low (h12 : 12 ≤ R.length + 5) (h5 : ∀ v, v5 = some v → v.lt (R.length + 5)) (h6 : ∀ v, v6 = some v → v.lt (R.length + 5)) (h7 : ∀ v, v7 = some v → v.lt (R.length + 5)) (k1 : ∀ v, c1 = some v → v.lt (R.length + 5)) (k2 : ∀ v, c2 = some v → v.lt (R.length + 5)) (hR : ∀ ao ∈ R, low (R.length + 5) ao) : Low (LS is bd v5 v6 v7 c1 c2 R) := by
  intro ao hao
  rw [LS_len]
  unfold LS lawS at hao
  rcases List.mem_cons.mp hao with rfl | hao
  · exact flats_low (ints_flat is)
  rcases List.mem_cons.mp hao with rfl | hao
  · intro v hv
    simp only [List.mem_cons, Option.some.injEq, List.not_mem_nil, or_false] at hv
    rcases hv with rfl | rfl | rfl | rfl | rfl | hv | hv | hv
    · show 0 < _; omega
    · show 6 < _; omega
    · exact trivial
    · show 8 < _; omega
    · show 11 < _; omega
    · exact h5 v hv.symm
    · exact h6 v hv.symm
    · exact h7 v hv.symm
  rcases List.mem_cons.mp hao with rfl | hao
  · intro v hv; cases hv; show 7 < _; omega
  rcases List.mem_cons.mp hao with rfl | hao
  · exact k1
  rcases List.mem_cons.mp hao with rfl | hao
  · exact k2
  · exact hR ao hao
theorem lw6_run (Q : LawQ q (mOr mStr r0) aSt aWo aCo aIf aDb aDi aFi C hn aK aV aG) (H : Hd5 C hn R ts (itemsOf words cols)) (hts : ts.length ≤ 1000) (hcl : cols.length = words.length) (hwl : words.length ≤ 16) (hc : ∀ c ∈ cols, c < 16) (h12 : 12 ≤ R.length + 5) (hR : ∀ ao ∈ R, low (R.length + 5) ao) :
    lw6 aIf (cOr blts q) (mOr mStr r0) (lawEnv code) (LS is bd none none none none none R) = some (.next, LS is bd none none none none (some (.ref (R.length + 6))) (R ++ [.list (cols.map fun c => .str (numS c)), .list (nts cols)])) := by
  have hm : mOr mStr r0 (.ref 11) ("values" : Str) (LS is bd none none none none none R) = some (.old aV, [.ref 11]) := Q.mV _ _ _ _ (H.zero ..).i (H.zero ..).d
  have hv : q (.old aV) [.ref 11] [] (LS is bd none none none none none R) = some (.ref (R.length + 5), LS is bd none none none none none (R ++ [.list (cols.map fun c => .str (numS c))])) := by
    have := Q.vs (st := LS is bd none none none none none R) (H.zero ..) hts
    rw [LS_app, LS_len, items_vals hcl] at this
    exact this
  have hi : itemsAt (LS is bd none none none none none (R ++ [.list (cols.map fun c => .str (numS c))])) (R.length + 5) = some (cols.map fun c => .str (numS c)) := by
    unfold itemsAt
    rw [show (LS is bd none none none none none (R ++ [.list (cols.map fun c => .str (numS c))]))[R.length + 5]? = _ from At5.last.zero ..]
  have hsrc : iList (bMeth (cOr blts q) (mOr mStr r0) (bLoc nmLaw 4) ("values" : Str) lNil kNil) (lawEnv code) (LS is bd none none none none none R) = some (.lst (R.length + 5), LS is bd none none none none none (R ++ [.list (cols.map fun c => .str (numS c))])) := by
    have hb : bLoc nmLaw 4 (lawEnv code) (LS is bd none none none none none R) = some (.ref 11, LS is bd none none none none none R) := rfl
    have hb' : bMeth (cOr blts q) (mOr mStr r0) (bLoc nmLaw 4) ("values" : Str) lNil kNil (lawEnv code) (LS is bd none none none none none R) = some (.ref (R.length + 5), LS is bd none none none none none (R ++ [.list (cols.map fun c => .str (numS c))])) := by
      unfold bMeth
      rw [hb]
      simp -implicitDefEqProofs only [Option.bind_some, hm, lNil, kNil, List.append_nil, c_old, hv, List.cons_append, List.nil_append]
    unfold iList
    rw [hb', Option.bind_some]
    dsimp only
    rw [hi]
    rfl
  have hf : (cols.map fun c => AV.str (numS c)).filterMap (fun x => match x with | .str s => (PySem.intText? s).map .int | _ => none) = nts cols := by
    rw [List.filterMap_map]
    unfold nts
    clear hsrc hi hv hm H hcl
    induction cols with
    | nil => rfl
    | cons c r ih =>
      have := (num_int' ⟨c, by have := hc c (List.mem_cons_self ..); omega⟩).1
      simp only [List.filterMap_cons, Function.comp, List.map_cons]
      rw [this]
      simp only [Option.map_some]
      rw [← ih fun x hx => hc x (List.mem_cons_of_mem _ hx)]
  have hlL : (LS is bd none none none none none (R ++ [.list (cols.map fun c => .str (numS c))])).length = R.length + 6 := by rw [LS_len, List.length_append, List.length_singleton]
  have hget : ∀ R' : St, (LS is bd none none none none none (R ++ [.list (cols.map fun c => .str (numS c))]) ++ R')[R.length + 5]? = some (.list (cols.map fun c => .str (numS c))) := fun R' => At5.last ..
  obtain ⟨a', h⟩ := compRun_gen2 (n0 := ".0") (n1 := "numeral") (tst := []) (e := (bCall (cOr blts q) (bVal (.old aIf)) (lCons (bLoc nmLn 1) lNil) kNil)) (cs := []) (sel := []) (code := code) (f := fun x => match x with | .str s => (PySem.intText? s).map .int | _ => none) (xs := cols.map fun c => AV.str (numS c)) rfl hsrc rfl (isize_lst (At5.last.zero ..)) (fun i R' => inext_lst (hget R')) (by rw [List.length_map]; omega) (fun x acc hx => by
    obtain ⟨c, hcm, rfl⟩ := List.mem_map.mp hx
    have hc16 := hc c hcm
    refine ⟨.int (c : Int), by dsimp only; rw [(num_int' ⟨c, by omega⟩).1]; rfl, rfl, ?_⟩
    have hq := fun st => Q.fs (st := st) (a := c) (by omega)
    unfold nmLn
    simp -implicitDefEqProofs only [ev, ↓reduceIte, Nat.reduceAdd, reduceCtorEq, c_old, hq])
  rw [hf] at h
  have hb := bComp_drop h (LS_low (by rw [List.length_append]; omega) (fun v hv => by cases hv) (fun v hv => by cases hv) (fun v hv => by cases hv) (fun v hv => by cases hv) (fun v hv => by cases hv) (fun ao hao => by
    rw [List.length_append]
    rcases List.mem_append.mp hao with hao | hao
    · exact low_mono (hR ao hao) (by omega)
    · rw [List.mem_singleton.mp hao]
      refine flats_low ?_
      rw [List.all_eq_true]
      intro x hx
      obtain ⟨y, _, rfl⟩ := List.mem_map.mp hx
      rfl)) (nts_flat _)
  rw [LS_app, hlL, List.append_assoc] at hb
  unfold lw6 xAsg
  unfold nmLn at hb ⊢
  rw [hb]
  rfl
end
theorem intsOf_strs {l : List Str} (h : l ≠ []) : intsOf (strsV l) = none := by
  cases l with
  | nil => exact absurd rfl h
  | cons a r => rfl
theorem strsOf_strsV (l : List Str) : strsOf (strsV l) = some l := strsOf_map l
section
variable {is : List Int} {code : Value} {q : CallF} {r0 : MethF} {aSt aWo aCo aIf aDb aDi aFi C : Addr} {hn : List Str} {aK aV aG : Addr} (Q : LawQ q (mOr mStr r0) aSt aWo aCo aIf aDb aDi aFi C hn aK aV aG)
variable {R : St} {ts : List Nat} {words : List (List Nat)} {cols ss : List Nat} {bd : Int} {num kc : Nat} {v5 v6 v7 c1 c2 : Option AV}
theorem lw7_run (Q : LawQ q (mOr mStr r0) aSt aWo aCo aIf aDb aDi aFi C hn aK aV aG) (H : At5 R 7 (.list (nts ss))) (hl : ss.length ≤ 4) (hs : ∀ s ∈ ss, s < 16) :
    lw7 aDb (cOr blts q) (lawEnv code) (LS is bd v5 v6 v7 c1 c2 R) = some (.next, LS is bd (some (.int (dbF bd ss : Nat))) v6 v7 c1 c2 R) := by
  have hq := Q.db (st := LS is bd v5 v6 v7 c1 c2 R) (b := bd) (H.zero ..) hl hs
  unfold lw7 lawEnv
  unfold LS lawS at hq ⊢
  simp -implicitDefEqProofs only [ev, ↓reduceIte, Nat.reduceAdd, reduceCtorEq, c_old, hq]
theorem lw8_run (Q : LawQ q (mOr mStr r0) aSt aWo aCo aIf aDb aDi aFi C hn aK aV aG) (H : Hd5 C hn R ts (itemsOf words cols)) (hts : ts.length ≤ 1000) (hcl : cols.length = words.length) (hwl : words.length ≤ 16) (hw0 : words ≠ []) (hc : ∀ c ∈ cols, c < 16)
    (HW : At5 R 8 (.list (strsV (words.map sx)))) (HC : At5 R kc (.list (nts cols))) (hso : (words.map sx).all PyData.strOk = true) (hval : valN 16 cols = num) :
    lw8 aDi (cOr blts q) (mOr mStr r0) (lawEnv code) (LS is bd (some (.int (num : Int))) v6 v7 c1 (some (.ref kc)) R) = some (.next, LS is bd (some (.int (num : Int))) v6 v7 c1 (some (.ref kc)) (R ++ [.list (strsV (words.map sx))])) := by
  have hm : mOr mStr r0 (.ref 11) ("keys" : Str) (LS is bd (some (.int (num : Int))) v6 v7 c1 (some (.ref kc)) R) = some (.old aK, [.ref 11]) := Q.mK _ _ _ _ (H.zero ..).i (H.zero ..).d
  have hv : q (.old aK) [.ref 11] [] (LS is bd (some (.int (num : Int))) v6 v7 c1 (some (.ref kc)) R) = some (.ref (R.length + 5), LS is bd (some (.int (num : Int))) v6 v7 c1 (some (.ref kc)) (R ++ [.list (strsV (words.map sx))])) := by
    have := Q.ks (st := LS is bd (some (.int (num : Int))) v6 v7 c1 (some (.ref kc)) R) (H.zero ..) hts
    rw [LS_app, LS_len, items_keys hcl] at this
    exact this
  have l1 : listAt (LS is bd (some (.int (num : Int))) v6 v7 c1 (some (.ref kc)) (R ++ [.list (strsV (words.map sx))])) (R.length + 5) = some (strsV (words.map sx)) := by
    unfold listAt
    rw [show (LS is bd (some (.int (num : Int))) v6 v7 c1 (some (.ref kc)) (R ++ [.list (strsV (words.map sx))]))[R.length + 5]? = _ from At5.last.zero ..]
  have l2 : listAt (LS is bd (some (.int (num : Int))) v6 v7 c1 (some (.ref kc)) (R ++ [.list (strsV (words.map sx))])) 8 = some (strsV (words.map sx)) := by
    unfold listAt
    rw [show (LS is bd (some (.int (num : Int))) v6 v7 c1 (some (.ref kc)) (R ++ [.list (strsV (words.map sx))]))[8]? = _ from (HW.app _).zero ..]
  have hd := Q.di (st := LS is bd (some (.int (num : Int))) v6 v7 c1 (some (.ref kc)) (R ++ [.list (strsV (words.map sx))])) (k := kc) (ds := cols) ((HC.app _).zero ..) (by omega) hc
  rw [hval] at hd
  have i1 : intsOf (strsV (words.map sx)) = none := intsOf_strs (by simpa using hw0)
  have hn0 : decide ((num : Int) < 0) = false := decide_eq_false (by omega)
  unfold lw8 lawEnv
  unfold LS lawS at hm hv l1 l2 hd ⊢
  simp -implicitDefEqProofs only [ev, ↓reduceIte, Nat.reduceAdd, reduceCtorEq, c_old, hm, hv, l1, l2, i1, strsOf_strsV, hso, Bool.and_self, hn0, hd]
theorem lw9_run (Q : LawQ q (mOr mStr r0) aSt aWo aCo aIf aDb aDi aFi C hn aK aV aG) (hwl : words.length ≤ 16)
    (HW : At5 R 8 (.list (strsV (words.map sx)))) (HC : At5 R kc (.list (nts cols))) (hn : num < 2 ^ 128) (hfill : digN 16 words.length num = cols) :
    lw9 aFi (cOr blts q) (lawEnv code) (LS is bd (some (.int (num : Int))) v6 v7 c1 (some (.ref kc)) R) = some (.next, LS is bd (some (.int (num : Int))) v6 v7 c1 (some (.ref kc)) (R ++ [.list (nts cols)])) := by
  have hsl : (strsV (words.map sx)).length = words.length := by unfold strsV; rw [List.length_map, List.length_map]
  have hlen : cOr blts q (.blt "len") [.ref 8] [] (LS is bd (some (.int (num : Int))) v6 v7 c1 (some (.ref kc)) R) = some (.int (words.length : Int), LS is bd (some (.int (num : Int))) v6 v7 c1 (some (.ref kc)) R) := by
    have := c_lenL (q := q) (st := LS is bd (some (.int (num : Int))) v6 v7 c1 (some (.ref kc)) R) (k := 8) (HW.zero ..) (by rw [hsl]; omega)
    rwa [hsl] at this
  have hv : q (.old aFi) [.int (num : Int), .int (words.length : Int)] [] (LS is bd (some (.int (num : Int))) v6 v7 c1 (some (.ref kc)) R) = some (.ref (R.length + 5), LS is bd (some (.int (num : Int))) v6 v7 c1 (some (.ref kc)) (R ++ [.list (nts cols)])) := by
    have := Q.fi (st := LS is bd (some (.int (num : Int))) v6 v7 c1 (some (.ref kc)) R) (x := num) (c := words.length) (by omega) hn
    rw [LS_app, LS_len, hfill] at this
    exact this
  have l1 : listAt (LS is bd (some (.int (num : Int))) v6 v7 c1 (some (.ref kc)) (R ++ [.list (nts cols)])) (R.length + 5) = some (nts cols) := by
    unfold listAt
    rw [show (LS is bd (some (.int (num : Int))) v6 v7 c1 (some (.ref kc)) (R ++ [.list (nts cols)]))[R.length + 5]? = _ from At5.last.zero ..]
  have l2 : listAt (LS is bd (some (.int (num : Int))) v6 v7 c1 (some (.ref kc)) (R ++ [.list (nts cols)])) kc = some (nts cols) := by
    unfold listAt
    rw [show (LS is bd (some (.int (num : Int))) v6 v7 c1 (some (.ref kc)) (R ++ [.list (nts cols)]))[kc]? = _ from (HC.app _).zero ..]
  unfold lw9 lawEnv
  unfold LS lawS at hlen hv l1 l2 ⊢
  simp -implicitDefEqProofs only [ev, ↓reduceIte, Nat.reduceAdd, reduceCtorEq, c_old, hlen, hv, l1, l2, intsOf_nts]
def kinF (words : List (List Nat)) (cols : List Nat) (ln : Str) (z : Nat) : List Int := sortI (((twinL words cols ln).map (· ^^^ z)).map Int.ofNat)
theorem nums_flat (l : List Nat) : (l.map fun c => AV.str (numS c)).all AV.flat = true := by
  rw [List.all_eq_true]
  intro x hx
  obtain ⟨y, _, rfl⟩ := List.mem_map.mp hx
  rfl
theorem words_item {words : List (List Nat)} {cols : List Nat} (hw2 : ∀ w ∈ words, w.length = 2) : ∀ p ∈ itemsOf words cols, p.1.length ≤ 1000 := by
  intro p hp
  unfold itemsOf at hp
  obtain ⟨x, hx, rfl⟩ := List.mem_map.mp hp
  rw [sx_len, hw2 _ (List.of_mem_zip hx).1]; omega
theorem lw10_run (Q : LawQ q (mOr mStr r0) aSt aWo aCo aIf aDb aDi aFi C hn aK aV aG) (H : Hd5 C hn R ts (itemsOf words cols)) (hts : ts.length ≤ 1000) (hwl : words.length ≤ 16) (hw2 : ∀ w ∈ words, w.length = 2) (hc : ∀ c ∈ cols, c < 16) (h12 : 12 ≤ R.length + 5) (hR : ∀ ao ∈ R, low (R.length + 5) ao) (hkc : kc < R.length + 5) :
    ∃ X Y, lw10 (cOr blts q) (mOr mStr r0) (lawEnv code) (LS is bd (some (.int (num : Int))) none none none (some (.ref kc)) R) = some (.next, LS is bd (some (.int (num : Int))) (some (.ref (R.length + 7))) none none (some (.ref kc)) ((R ++ [X, Y]) ++ [.list ((kinF words cols (Txt.lower ("AC" : Str)) 0).map .int)])) := by
  refine ⟨.list ((twinL words cols (Txt.lower ("AC" : Str))).map fun c => .str (numS c)), .list (nts (twinL words cols (Txt.lower ("AC" : Str)))), ?_⟩
  have hm : mOr mStr r0 (.ref 11) ("get_all" : Str) (LS is bd (some (.int (num : Int))) none none none (some (.ref kc)) R) = some (.old aG, [.ref 11]) := Q.mG _ _ _ _ (H.zero ..).i (H.zero ..).d
  have hv : q (.old aG) [.ref 11, .str ("AC" : Str)] [] (LS is bd (some (.int (num : Int))) none none none (some (.ref kc)) R) = some (.ref (R.length + 5), LS is bd (some (.int (num : Int))) none none none (some (.ref kc)) (R ++ [.list ((twinL words cols (Txt.lower ("AC" : Str))).map fun c => .str (numS c))])) := by
    have := Q.ga (st := LS is bd (some (.int (num : Int))) none none none (some (.ref kc)) R) (nm := ("AC" : Str)) (H.zero ..) hts (by decide +kernel) (by decide +kernel) (by decide +kernel) (words_item hw2)
    rw [LS_app, LS_len, getAll_items] at this
    exact this
  obtain ⟨tw, htw⟩ : ∃ tw, tw = twinL words cols (Txt.lower ("AC" : Str)) := ⟨_, rfl⟩
  have hmem : ∀ c ∈ tw, c < 16 := fun c hc' => hc c (twinL_mem (by rw [htw] at hc'; exact hc'))
  have htl : tw.length ≤ 16 := by rw [htw]; exact Nat.le_trans twinL_len hwl
  rw [← htw] at hv ⊢
  have hi : itemsAt (LS is bd (some (.int (num : Int))) none none none (some (.ref kc)) (R ++ [.list (tw.map fun c => .str (numS c))])) (R.length + 5) = some (tw.map fun c => .str (numS c)) := by
    unfold itemsAt
    rw [show (LS is bd (some (.int (num : Int))) none none none (some (.ref kc)) (R ++ [.list (tw.map fun c => .str (numS c))]))[R.length + 5]? = _ from At5.last.zero ..]
  have hsrc : iList (bMeth (cOr blts q) (mOr mStr r0) (bLoc nmLaw 4) ("get_all" : Str) (lCons (bVal (.str ("AC" : Str))) lNil) kNil) (lawEnv code) (LS is bd (some (.int (num : Int))) none none none (some (.ref kc)) R) = some (.lst (R.length + 5), LS is bd (some (.int (num : Int))) none none none (some (.ref kc)) (R ++ [.list (tw.map fun c => .str (numS c))])) := by
    have hb' : bMeth (cOr blts q) (mOr mStr r0) (bLoc nmLaw 4) ("get_all" : Str) (lCons (bVal (.str ("AC" : Str))) lNil) kNil (lawEnv code) (LS is bd (some (.int (num : Int))) none none none (some (.ref kc)) R) = some (.ref (R.length + 5), LS is bd (some (.int (num : Int))) none none none (some (.ref kc)) (R ++ [.list (tw.map fun c => .str (numS c))])) := by
      unfold lawEnv
      unfold LS lawS at hm hv ⊢
      simp -implicitDefEqProofs only [ev, ↓reduceIte, Nat.reduceAdd, reduceCtorEq, c_old, hm, hv]
    unfold iList
    rw [hb', Option.bind_some]
    dsimp only
    rw [hi]
    rfl
  have hf : (tw.map fun c => AV.str (numS c)).filterMap (fun x => match x with | .str s => (PySem.intText? s).map .int | _ => none) = nts tw := by
    rw [List.filterMap_map]
    unfold nts
    clear hsrc hi hv hm H htw htl
    induction tw with
    | nil => rfl
    | cons c r ih =>
      have := (num_int' ⟨c, by have := hmem c (List.mem_cons_self ..); omega⟩).1
      simp only [List.filterMap_cons, Function.comp, List.map_cons]
      rw [this]
      simp only [Option.map_some]
      rw [← ih fun x hx => hmem x (List.mem_cons_of_mem _ hx)]
  have hlL : (LS is bd (some (.int (num : Int))) none none none (some (.ref kc)) (R ++ [.list (tw.map fun c => .str (numS c))])).length = R.length + 6 := by rw [LS_len, List.length_append, List.length_singleton]
  have hget : ∀ R' : St, (LS is bd (some (.int (num : Int))) none none none (some (.ref kc)) (R ++ [.list (tw.map fun c => .str (numS c))]) ++ R')[R.length + 5]? = some (.list (tw.map fun c => .str (numS c))) := fun R' => At5.last ..
  obtain ⟨a', h⟩ := compRun_gen2 (n0 := ".0") (n1 := "numeral") (tst := []) (e := (bCall (cOr blts q) (bVal (.typ "int")) (lCons (bLoc nmLn 1) lNil) kNil)) (cs := []) (sel := []) (code := code) (f := fun x => match x with | .str s => (PySem.intText? s).map .int | _ => none) (xs := tw.map fun c => AV.str (numS c)) rfl hsrc rfl (isize_lst (At5.last.zero ..)) (fun i R' => inext_lst (hget R')) (by rw [List.length_map]; omega) (fun x acc hx => by
    obtain ⟨c, hcm, rfl⟩ := List.mem_map.mp hx
    have hc16 := hmem c hcm
    refine ⟨.int (c : Int), by dsimp only; rw [(num_int' ⟨c, by omega⟩).1]; rfl, rfl, ?_⟩
    have hq := fun st => c_int (q := q) (st := st) (a := c) (by omega)
    unfold nmLn
    simp -implicitDefEqProofs only [ev, ↓reduceIte, Nat.reduceAdd, reduceCtorEq, hq])
  rw [hf] at h
  have hb := bComp_drop h (LS_low (by rw [List.length_append]; omega) (fun v hv => by cases hv; exact trivial) (fun v hv => by cases hv) (fun v hv => by cases hv) (fun v hv => by cases hv) (fun v hv => by cases hv; show kc < _; rw [List.length_append]; omega) (fun ao hao => by
    rw [List.length_append]
    rcases List.mem_append.mp hao with hao | hao
    · exact low_mono (hR ao hao) (by omega)
    · rw [List.mem_singleton.mp hao]
      exact flats_low (nums_flat _))) (nts_flat _)
  rw [LS_app, hlL, List.append_assoc] at hb
  have hkin : kinF words cols (Txt.lower ("AC" : Str)) 0 = sortI (tw.map Int.ofNat) := by
    unfold kinF
    rw [← htw]
    congr 2
    exact (List.map_congr_left fun x hx => Nat.xor_zero x).trans (List.map_id _)
  have hi2 : itemsAt (LS is bd (some (.int (num : Int))) none none none (some (.ref kc)) (R ++ ([.list (tw.map fun c => .str (numS c))] ++ [.list (nts tw)]))) (R.length + 6) = some (nts tw) := by
    have := At5.last (R := R ++ [.list (tw.map fun c => .str (numS c))]) (ob := .list (nts tw))
    rw [List.length_append, List.length_singleton, List.append_assoc] at this
    unfold itemsAt
    rw [show (LS is bd (some (.int (num : Int))) none none none (some (.ref kc)) (R ++ ([.list (tw.map fun c => .str (numS c))] ++ [.list (nts tw)])))[R.length + 6]? = _ from this.zero ..]
  have hs := c_sortedL (q := q) hi2 (intsOf_nts tw) (by rw [List.length_map]; omega)
  rw [LS_app, LS_len, ← hkin] at hs
  have main : ∀ A : Act AV, A (lawEnv code) (LS is bd (some (.int (num : Int))) none none none (some (.ref kc)) R) = some (.ref (R.length + 6), LS is bd (some (.int (num : Int))) none none none (some (.ref kc)) (R ++ ([.list (tw.map fun c => .str (numS c))] ++ [.list (nts tw)]))) →
      xAsg (bCall (cOr blts q) (bVal (.blt "sorted")) (lCons A lNil) kNil) [(gLoc nmLaw 6)] (lawEnv code) (LS is bd (some (.int (num : Int))) none none none (some (.ref kc)) R) = some (.next, LS is bd (some (.int (num : Int))) (some (.ref (R.length + 7))) none none (some (.ref kc)) ((R ++ [.list (tw.map fun c => .str (numS c)), .list (nts tw)]) ++ [.list ((kinF words cols (Txt.lower ("AC" : Str)) 0).map .int)])) := fun A hA => by
    unfold lawEnv at hA ⊢
    unfold LS lawS at hA hs ⊢
    simp -implicitDefEqProofs only [ev, ↓reduceIte, Nat.reduceAdd, reduceCtorEq, hA]
    simp -implicitDefEqProofs only [List.cons_append, List.nil_append, List.append_assoc, List.length_append, List.length_cons, List.length_nil, Nat.zero_add, Nat.reduceAdd, Nat.add_assoc] at hs
    simp -implicitDefEqProofs only [ev, ↓reduceIte, Nat.reduceAdd, reduceCtorEq, hs]
  exact main _ hb
end
section
variable {is : List Int} {code : Value} {q : CallF} {r0 : MethF} {aSt aWo aCo aIf aDb aDi aFi C : Addr} {hn : List Str} {aK aV aG : Addr}
variable {R : St} {ts : List Nat} {words : List (List Nat)} {cols ss : List Nat} {bd : Int} {num kc kk : Nat} {v5 v6 v7 c1 c2 : Option AV}
theorem lwIn_run (Q : LawQ q (mOr mStr r0) aSt aWo aCo aIf aDb aDi aFi C hn aK aV aG) (H : Hd5 C hn R ts (itemsOf words cols)) (hts : ts.length ≤ 1000) (hwl : words.length ≤ 16) (hcl : cols.length = words.length) (hw2 : ∀ w ∈ words, w.length = 2) (hc : ∀ c ∈ cols, c < 16)
    (hsw : ∀ w ∈ words, okS (Txt.lower (Txt.swapcase (sx w))) = true ∧ (Txt.swapcase (sx w)).length ≤ 1000 ∧ (Txt.lower (Txt.swapcase (sx w))).length ≤ 1000)
    (HW : At5 R 8 (.list (strsV (words.map sx)))) (HC : At5 R kc (.list (nts cols))) {kin : List Int} (HK : At5 R kk (.list (kin.map .int))) {k : Nat} {w : List Nat} (hk : words[k]? = some w)
    (hkin : kinF words cols (Txt.lower (Txt.swapcase (sx w))) (cols.getD k 0) = kin) :
    ∃ X Y Z, lwIn (cOr blts q) (mOr mStr r0) (lawEnv code) (LS is bd (some (.int (num : Int))) (some (.ref kk)) v7 (some (.int (k : Int))) (some (.ref kc)) R) = some (.next, LS is bd (some (.int (num : Int))) (some (.ref kk)) (some (.ref (R.length + 5))) (some (.int (k : Int))) (some (.ref kc)) (R ++ [X, Y, Z])) := by
  obtain ⟨hs1, hs2, hs3⟩ := hsw w (List.mem_of_getElem? hk)
  have hkl := (List.getElem?_eq_some_iff.mp hk).1
  obtain ⟨tw, htw⟩ : ∃ tw, tw = twinL words cols (Txt.lower (Txt.swapcase (sx w))) := ⟨_, rfl⟩
  obtain ⟨ck, hck⟩ : ∃ ck, ck = cols.getD k 0 := ⟨_, rfl⟩
  have hmem : ∀ c ∈ tw, c < 16 := fun c hc' => hc c (twinL_mem (by rw [htw] at hc'; exact hc'))
  have htl : tw.length ≤ 16 := by rw [htw]; exact Nat.le_trans twinL_len hwl
  refine ⟨.list (tw.map fun c => .str (numS c)), .list (nts (tw.map (· ^^^ ck))), .list (kin.map .int), ?_⟩
  have hm : mOr mStr r0 (.ref 11) ("get_all" : Str) (LS is bd (some (.int (num : Int))) (some (.ref kk)) v7 (some (.int (k : Int))) (some (.ref kc)) R) = some (.old aG, [.ref 11]) := Q.mG _ _ _ _ (H.zero ..).i (H.zero ..).d
  have hv : q (.old aG) [.ref 11, .str (Txt.swapcase (sx w))] [] (LS is bd (some (.int (num : Int))) (some (.ref kk)) v7 (some (.int (k : Int))) (some (.ref kc)) R) = some (.ref (R.length + 5), LS is bd (some (.int (num : Int))) (some (.ref kk)) v7 (some (.int (k : Int))) (some (.ref kc)) (R ++ [.list (tw.map fun c => .str (numS c))])) := by
    have := Q.ga (st := LS is bd (some (.int (num : Int))) (some (.ref kk)) v7 (some (.int (k : Int))) (some (.ref kc)) R) (nm := Txt.swapcase (sx w)) (H.zero ..) hts hs1 hs2 hs3 (words_item hw2)
    rw [LS_app, LS_len, getAll_items, ← htw] at this
    exact this
  have hit : aitem (.ref 8) (.int (k : Int)) (LS is bd (some (.int (num : Int))) (some (.ref kk)) v7 (some (.int (k : Int))) (some (.ref kc)) R) = some (.str (sx w), LS is bd (some (.int (num : Int))) (some (.ref kk)) v7 (some (.int (k : Int))) (some (.ref kc)) R) := aitem_at (HW.zero ..) (by unfold strsV; rw [List.getElem?_map, List.getElem?_map, hk]; rfl) (by omega)
  have hsl : (sx w).length ≤ 1000 := by rw [sx_len, hw2 w (List.mem_of_getElem? hk)]; omega
  unfold lwIn
  refine seqT (st1 := LS is bd (some (.int (num : Int))) (some (.ref kk)) (some (.ref (R.length + 5))) (some (.int (k : Int))) (some (.ref kc)) (R ++ [.list (tw.map fun c => .str (numS c))])) ?_ ?_
  · unfold lawEnv
    unfold LS lawS at hm hv hit ⊢
    simp -implicitDefEqProofs only [ev, ↓reduceIte, Nat.reduceAdd, reduceCtorEq, c_old, hit, m_swapS, c_swap hsl, hm, hv]
  have hlL : (LS is bd (some (.int (num : Int))) (some (.ref kk)) (some (.ref (R.length + 5))) (some (.int (k : Int))) (some (.ref kc)) (R ++ [.list (tw.map fun c => .str (numS c))])).length = R.length + 6 := by rw [LS_len, List.length_append, List.length_singleton]
  have hget : ∀ R' : St, (LS is bd (some (.int (num : Int))) (some (.ref kk)) (some (.ref (R.length + 5))) (some (.int (k : Int))) (some (.ref kc)) (R ++ [.list (tw.map fun c => .str (numS c))]) ++ R')[R.length + 5]? = some (.list (tw.map fun c => .str (numS c))) := fun R' => At5.last ..
  have hi : itemsAt (LS is bd (some (.int (num : Int))) (some (.ref kk)) (some (.ref (R.length + 5))) (some (.int (k : Int))) (some (.ref kc)) (R ++ [.list (tw.map fun c => .str (numS c))])) (R.length + 5) = some (tw.map fun c => .str (numS c)) := by
    unfold itemsAt
    rw [show (LS is bd (some (.int (num : Int))) (some (.ref kk)) (some (.ref (R.length + 5))) (some (.int (k : Int))) (some (.ref kc)) (R ++ [.list (tw.map fun c => .str (numS c))]))[R.length + 5]? = _ from At5.last.zero ..]
  have hsrc : iList (bLoc nmLaw 7) (lawEnv code) (LS is bd (some (.int (num : Int))) (some (.ref kk)) (some (.ref (R.length + 5))) (some (.int (k : Int))) (some (.ref kc)) (R ++ [.list (tw.map fun c => .str (numS c))])) = some (.lst (R.length + 5), LS is bd (some (.int (num : Int))) (some (.ref kk)) (some (.ref (R.length + 5))) (some (.int (k : Int))) (some (.ref kc)) (R ++ [.list (tw.map fun c => .str (numS c))])) := by
    unfold lawEnv
    unfold LS lawS at hi ⊢
    simp -implicitDefEqProofs only [ev, ↓reduceIte, Nat.reduceAdd, reduceCtorEq, hi]
  have hf : (tw.map fun c => AV.str (numS c)).filterMap (fun x => match x with | .str s => (PySem.intText? s).map (fun z => .int (Builtin.bitXor z (ck : Int))) | _ => none) = nts (tw.map (· ^^^ ck)) := by
    rw [List.filterMap_map]
    unfold nts
    clear hsrc hi hget hlL hv hm H htw htl
    induction tw with
    | nil => rfl
    | cons c r ih =>
      have := (num_int' ⟨c, by have := hmem c (List.mem_cons_self ..); omega⟩).1
      simp only [List.filterMap_cons, Function.comp, List.map_cons]
      rw [this]
      simp only [Option.map_some, bitXor_nat]
      rw [← ih fun x hx => hmem x (List.mem_cons_of_mem _ hx)]
  obtain ⟨a', h⟩ := compRun_gen2 (n0 := ".0") (n1 := "numeral") (tst := []) (e := (bBin .BitXor (bCall (cOr blts q) (bVal (.typ "int")) (lCons (bLoc nmLn 1) lNil) kNil) (bItem (bCell 0) (bCell 1)))) (cs := [4, 3]) (sel := [2, 1]) (code := code) (f := fun x => match x with | .str s => (PySem.intText? s).map (fun z => .int (Builtin.bitXor z (ck : Int))) | _ => none) (xs := tw.map fun c => AV.str (numS c)) rfl hsrc rfl (isize_lst (At5.last.zero ..)) (fun i R' => inext_lst (hget R')) (by rw [List.length_map]; omega) (fun x acc hx => by
    obtain ⟨c, hcm, rfl⟩ := List.mem_map.mp hx
    have hc16 := hmem c hcm
    refine ⟨.int ((c ^^^ ck : Nat) : Int), by dsimp only; rw [(num_int' ⟨c, by omega⟩).1]; simp only [Option.map_some, bitXor_nat], rfl, ?_⟩
    have hq := fun st => c_int (q := q) (st := st) (a := c) (by omega)
    have hcol : ∀ R' : St, aitem (.ref kc) (.int (k : Int)) (LS is bd (some (.int (num : Int))) (some (.ref kk)) (some (.ref (R.length + 5))) (some (.int (k : Int))) (some (.ref kc)) (R ++ [.list (tw.map fun c => .str (numS c))]) ++ R') = some (.int (ck : Int), LS is bd (some (.int (num : Int))) (some (.ref kk)) (some (.ref (R.length + 5))) (some (.int (k : Int))) (some (.ref kc)) (R ++ [.list (tw.map fun c => .str (numS c))]) ++ R') := fun R' => aitem_at (HC.app [.list (tw.map fun c => .str (numS c))] _ _ _ _ _ R') (by rw [hck]; exact nts_get (getD_of (by omega))) (by omega)
    obtain ⟨M, hM⟩ : ∃ M, M = LS is bd (some (.int (num : Int))) (some (.ref kk)) (some (.ref (R.length + 5))) (some (.int (k : Int))) (some (.ref kc)) (R ++ [.list (tw.map fun c => .str (numS c))]) := ⟨_, rfl⟩
    have a3 : ∀ R' : St, (M ++ R')[3]? = some (.cell (some (.int (k : Int)))) := fun R' => by rw [hM]; rfl
    have a4 : ∀ R' : St, (M ++ R')[4]? = some (.cell (some (.ref kc))) := fun R' => by rw [hM]; rfl
    rw [← hM] at hcol ⊢
    unfold nmLn
    simp -implicitDefEqProofs only [ev, ↓reduceIte, Nat.reduceAdd, reduceCtorEq, hq, a3, a4, hcol, bitXor_nat])
  rw [hf] at h
  have hb := bComp_of h (nts_flat _)
  rw [LS_app, hlL, List.append_assoc] at hb
  refine seqT ?_ rfl
  have hi2 : itemsAt (LS is bd (some (.int (num : Int))) (some (.ref kk)) (some (.ref (R.length + 5))) (some (.int (k : Int))) (some (.ref kc)) (R ++ ([.list (tw.map fun c => .str (numS c))] ++ [.list (nts (tw.map (· ^^^ ck)))]))) (R.length + 6) = some (nts (tw.map (· ^^^ ck))) := by
    have := At5.last (R := R ++ [.list (tw.map fun c => .str (numS c))]) (ob := .list (nts (tw.map (· ^^^ ck))))
    rw [List.length_append, List.length_singleton, List.append_assoc] at this
    unfold itemsAt
    rw [show (LS is bd (some (.int (num : Int))) (some (.ref kk)) (some (.ref (R.length + 5))) (some (.int (k : Int))) (some (.ref kc)) (R ++ ([.list (tw.map fun c => .str (numS c))] ++ [.list (nts (tw.map (· ^^^ ck)))])))[R.length + 6]? = _ from this.zero ..]
  have hs := c_sortedL (q := q) hi2 (intsOf_nts (tw.map (· ^^^ ck))) (by rw [List.length_map, List.length_map]; omega)
  rw [show sortI ((tw.map (· ^^^ ck)).map Int.ofNat) = kin by rw [htw, hck]; exact hkin, LS_app, LS_len] at hs
  have l1 : listAt (LS is bd (some (.int (num : Int))) (some (.ref kk)) (some (.ref (R.length + 5))) (some (.int (k : Int))) (some (.ref kc)) ((R ++ [.list (tw.map fun c => .str (numS c)), .list (nts (tw.map (· ^^^ ck)))]) ++ [.list (kin.map .int)])) (R.length + 7) = some (kin.map .int) := by
    have := At5.last (R := R ++ [.list (tw.map fun c => .str (numS c)), .list (nts (tw.map (· ^^^ ck)))]) (ob := .list (kin.map .int))
    rw [List.length_append] at this
    unfold listAt
    rw [show (LS is bd (some (.int (num : Int))) (some (.ref kk)) (some (.ref (R.length + 5))) (some (.int (k : Int))) (some (.ref kc)) ((R ++ [.list (tw.map fun c => .str (numS c)), .list (nts (tw.map (· ^^^ ck)))]) ++ [.list (kin.map .int)]))[R.length + 7]? = _ from this.zero ..]
  have l2 : listAt (LS is bd (some (.int (num : Int))) (some (.ref kk)) (some (.ref (R.length + 5))) (some (.int (k : Int))) (some (.ref kc)) ((R ++ [.list (tw.map fun c => .str (numS c)), .list (nts (tw.map (· ^^^ ck)))]) ++ [.list (kin.map .int)])) kk = some (kin.map .int) := by
    unfold listAt
    rw [show (LS is bd (some (.int (num : Int))) (some (.ref kk)) (some (.ref (R.length + 5))) (some (.int (k : Int))) (some (.ref kc)) ((R ++ [.list (tw.map fun c => .str (numS c)), .list (nts (tw.map (· ^^^ ck)))]) ++ [.list (kin.map .int)]))[kk]? = _ from ((HK.app _).app _).zero ..]
  have main : ∀ (A : Act AV) (B : Act AFlow), A (lawEnv code) (LS is bd (some (.int (num : Int))) (some (.ref kk)) (some (.ref (R.length + 5))) (some (.int (k : Int))) (some (.ref kc)) (R ++ [.list (tw.map fun c => .str (numS c))])) = some (.ref (R.length + 6), LS is bd (some (.int (num : Int))) (some (.ref kk)) (some (.ref (R.length + 5))) (some (.int (k : Int))) (some (.ref kc)) (R ++ ([.list (tw.map fun c => .str (numS c))] ++ [.list (nts (tw.map (· ^^^ ck)))]))) →
      xIf (tCmp .NotEq (bCall (cOr blts q) (bVal (.blt "sorted")) (lCons A lNil) kNil) (bLoc nmLaw 6)) B xPass (lawEnv code) (LS is bd (some (.int (num : Int))) (some (.ref kk)) (some (.ref (R.length + 5))) (some (.int (k : Int))) (some (.ref kc)) (R ++ [.list (tw.map fun c => .str (numS c))])) = some (.next, LS is bd (some (.int (num : Int))) (some (.ref kk)) (some (.ref (R.length + 5))) (some (.int (k : Int))) (some (.ref kc)) (R ++ [.list (tw.map fun c => .str (numS c)), .list (nts (tw.map (· ^^^ ck))), .list (kin.map .int)])) := fun A B hA => by
    unfold lawEnv at hA ⊢
    unfold LS lawS at hA hs l1 l2 ⊢
    simp -implicitDefEqProofs only [List.cons_append, List.nil_append, List.append_assoc, List.length_append, List.length_cons, List.length_nil, Nat.zero_add, Nat.reduceAdd, Nat.add_assoc] at hs l1 l2 hA
    simp -implicitDefEqProofs only [ev, ↓reduceIte, Nat.reduceAdd, reduceCtorEq, hA, hs, l1, l2, intsOf_map]
  exact main _ _ hb
end
theorem colGo_len (bound : Int) : ∀ (wr ws : List (List Nat)) (cs : List Nat), (colGo bound wr ws cs).length = cs.length + wr.length
  | [], _, _ => rfl
  | w :: wr, ws, cs => by
    show (colGo bound wr (ws ++ [w]) (cs ++ [colOne bound ws cs w])).length = _
    rw [colGo_len bound wr]; simp; omega
theorem colF_len (bound : Int) (words : List (List Nat)) : (colF bound words).length = words.length := by
  unfold colF; rw [colGo_len]; simp
theorem colGo_lt (bound : Int) : ∀ (wr ws : List (List Nat)) (cs : List Nat), (∀ c ∈ cs, c < cs.length) → ∀ c ∈ colGo bound wr ws cs, c < cs.length + wr.length
  | [], _, _, h => fun c hc => Nat.lt_of_lt_of_le (h c hc) (Nat.le_add_right _ _)
  | w :: wr, ws, cs, h => fun c hc => by
    have h1 : colOne bound ws cs w < cs.length + 1 := by
      have := mexGo_le (barGo (nearF bound w) ws cs []) cs.length 0
      unfold colOne; omega
    have := colGo_lt bound wr (ws ++ [w]) (cs ++ [colOne bound ws cs w]) (fun x hx => by
      rw [List.length_append, List.length_singleton]
      rcases List.mem_append.mp hx with hx | hx
      · have := h x hx; omega
      · rw [List.mem_singleton.mp hx]; exact h1) c hc
    rw [List.length_append, List.length_singleton] at this
    simp; omega
theorem colF_lt (bound : Int) (words : List (List Nat)) : ∀ c ∈ colF bound words, c < words.length := fun c hc => by
  have := colGo_lt bound words [] [] (fun c hc => by cases hc) c hc
  simpa using this
theorem stepsF_len {sm : List Nat} {cnt : Nat} (h : cnt ≤ 4) : (stepsF sm cnt).length = cnt := by
  unfold stepsF
  rw [stGo_len]
  simp; omega
theorem stepsF_lt {sm : List Nat} {cnt : Nat} (h : ∀ x ∈ sm, x < 16) : ∀ s ∈ stepsF sm cnt, s < 16 := by
  unfold stepsF
  refine stGo_lt cnt sm 0 _ h fun x hx => ?_
  have := List.mem_of_mem_take hx
  simp at this
  omega
theorem dbGo_lt (bound : Int) : ∀ (sr held : List Nat) (num : Nat), held.length * 2 ^ sr.length ≤ 16 → num < 16 ^ held.length → dbGo bound sr held num < 16 ^ 16
  | [], held, num, hl, hn => by
    show num < 16 ^ 16
    have : 16 ^ held.length ≤ 16 ^ 16 := Nat.pow_le_pow_right (by omega) (by simpa using hl)
    omega
  | s :: sr, held, num, hl, hn => by
    have hl2 : (held.length + held.length) * 2 ^ sr.length ≤ 16 := by
      rw [List.length_cons, Nat.pow_succ] at hl
      have : (held.length + held.length) * 2 ^ sr.length = held.length * (2 ^ sr.length * 2) := by rw [← Nat.two_mul, Nat.mul_comm 2, Nat.mul_assoc, Nat.mul_comm 2]
      omega
    have hp : 0 < 2 ^ sr.length := Nat.pow_pos (by omega)
    have hl8 : held.length ≤ 8 := by
      have : (held.length + held.length) * 1 ≤ (held.length + held.length) * 2 ^ sr.length := Nat.mul_le_mul_left _ hp
      omega
    exact dbGo_lt bound sr (held ++ held.map (· ^^^ s)) (numF bound held num s) (by rw [xor16_len]; exact hl2) (by rw [xor16_len]; exact (numF_lt hl8 hn).2.2)
theorem dbF_lt {bound : Int} {ss : List Nat} (h : ss.length ≤ 4) : dbF bound ss < 2 ^ 128 := by
  have hp : 2 ^ ss.length ≤ 16 := by
    have : 2 ^ ss.length ≤ 2 ^ 4 := Nat.pow_le_pow_right (by omega) h
    omega
  have := dbGo_lt bound ss [0] 0 (by simpa using hp) (by simp)
  have e : (16 : Nat) ^ 16 < 2 ^ 128 := by decide
  unfold dbF; omega
structure LawOK (ss : List Nat) (bd : Nat) : Prop where
  val : valN 16 (colF bd (wordsF ss)) = dbF bd ss
  fill : digN 16 (wordsF ss).length (dbF bd ss) = colF bd (wordsF ss)
  kin : ∀ (k : Nat) (w : List Nat), (wordsF ss)[k]? = some w → kinF (wordsF ss) (colF bd (wordsF ss)) (Txt.lower (Txt.swapcase (sx w))) ((colF bd (wordsF ss)).getD k 0) = kinF (wordsF ss) (colF bd (wordsF ss)) (Txt.lower ("AC" : Str)) 0
theorem word_ok : ∀ h : Fin 16, PyData.strOk (sx (wordL h.val)) = true ∧ okS (Txt.lower (Txt.swapcase (sx (wordL h.val)))) = true ∧ (Txt.swapcase (sx (wordL h.val))).length ≤ 1000 ∧ (Txt.lower (Txt.swapcase (sx (wordL h.val)))).length ≤ 1000 := by decide +kernel
theorem tabOf_low {C : Addr} {hn : List Str} {items : List (Str × Str)} : ∀ ao ∈ tabOf C hn 9 items, low (9 + (tabOf C hn 9 items).length) ao := by
  have hlen : (tabOf C hn 9 items).length = items.length + 3 := by unfold tabOf; simp
  intro ao hao
  rw [hlen]
  unfold tabOf at hao
  rcases List.mem_cons.mp hao with rfl | hao
  · intro x hx
    obtain ⟨i, hi, rfl⟩ := List.mem_map.mp hx
    have := List.mem_range.mp hi
    show 9 + 3 + i < _; omega
  rcases List.mem_cons.mp hao with rfl | hao
  · intro v hv
    rcases List.mem_cons.mp hv with hv | hv
    · cases hv; show 9 < _; omega
    · cases (List.mem_replicate.mp hv).2
  rcases List.mem_cons.mp hao with rfl | hao
  · show 9 + 1 < _; omega
  · obtain ⟨p, _, rfl⟩ := List.mem_map.mp hao
    intro x hx
    simp only [List.mem_cons, List.not_mem_nil, or_false] at hx
    rcases hx with rfl | rfl <;> exact trivial
section
variable {is : List Int} {code : Value} {q : CallF} {r0 : MethF} {aSt aWo aCo aIf aDb aDi aFi C : Addr} {hn : List Str} {aK aV aG : Addr}
theorem lw_loop (Q : LawQ q (mOr mStr r0) aSt aWo aCo aIf aDb aDi aFi C hn aK aV aG) {words : List (List Nat)} {cols ts : List Nat} {bd : Int} {num kc kk : Nat} {kin : List Int} (hts : ts.length ≤ 1000) (hwl : words.length ≤ 16) (hcl : cols.length = words.length) (hw2 : ∀ w ∈ words, w.length = 2) (hc : ∀ c ∈ cols, c < 16)
    (hsw : ∀ w ∈ words, okS (Txt.lower (Txt.swapcase (sx w))) = true ∧ (Txt.swapcase (sx w)).length ≤ 1000 ∧ (Txt.lower (Txt.swapcase (sx w))).length ≤ 1000)
    (hkin : ∀ (k : Nat) (w : List Nat), words[k]? = some w → kinF words cols (Txt.lower (Txt.swapcase (sx w))) (cols.getD k 0) = kin) :
    ∀ (n i fuel : Nat) (R : St) (v7 c1 : Option AV), n + i = words.length → n < fuel → Hd5 C hn R ts (itemsOf words cols) → At5 R 8 (.list (strsV (words.map sx))) → At5 R kc (.list (nts cols)) → At5 R kk (.list (kin.map .int)) → ∃ v7' c1' R',
      forGo (.rng 0 1 words.length) (gCell 1) (lwIn (cOr blts q) (mOr mStr r0)) xPass (lawEnv code) fuel i (LS is bd (some (.int (num : Int))) (some (.ref kk)) v7 c1 (some (.ref kc)) R) = some (.next, LS is bd (some (.int (num : Int))) (some (.ref kk)) v7' c1' (some (.ref kc)) R') := by
  intro n
  induction n with
  | zero =>
    intro i fuel R v7 c1 hni hf H HW HC HK
    obtain ⟨f, rfl⟩ : ∃ f, fuel = f + 1 := ⟨fuel - 1, by omega⟩
    exact ⟨v7, c1, R, for_end (inext_rng_end (by omega)) rfl⟩
  | succ n ih =>
    intro i fuel R v7 c1 hni hf H HW HC HK
    obtain ⟨f, rfl⟩ : ∃ f, fuel = f + 1 := ⟨fuel - 1, by omega⟩
    obtain ⟨w, hw⟩ : ∃ w, words[i]? = some w := ⟨_, List.getElem?_eq_getElem (by omega)⟩
    obtain ⟨A, B, D, h1⟩ := lwIn_run (is := is) (code := code) (bd := bd) (num := num) (v7 := v7) Q H hts hwl hcl hw2 hc hsw HW HC HK hw (hkin i w hw)
    obtain ⟨v7', c1', R', h2⟩ := ih (i + 1) f (R ++ [A, B, D]) (some (.ref (R.length + 5))) (some (.int (i : Int))) (by omega) (by omega) (H.app _) (HW.app _) (HC.app _) (HK.app _)
    exact ⟨v7', c1', R', for_next (inext_rng (by omega)) (st1 := LS is bd (some (.int (num : Int))) (some (.ref kk)) v7 (some (.int (i : Int))) (some (.ref kc)) R) rfl h1 h2⟩
theorem law_run (Q : LawQ q (mOr mStr r0) aSt aWo aCo aIf aDb aDi aFi C hn aK aV aG) (hl : is.length ≤ 1000) (ok : LawOK (stepsF (smallF is) (cntF is)) (boundF (smallF is))) :
    ∃ g, lawAct aSt aWo aCo aIf aDb aDi aFi (cOr blts q) (mOr mStr r0) (lawEnv code) (lawS (is.map .int) none none none none none none none none none none []) = some (.ret (.bool true), [.rlist (is.map .int)] ++ g) := by
  obtain ⟨sm, hsm⟩ : ∃ sm, sm = smallF is := ⟨_, rfl⟩
  have hsl := smallF_len is
  have hslt := smallF_lt is
  obtain ⟨ss, hss⟩ : ∃ ss, ss = stepsF (smallF is) (cntF is) := ⟨_, rfl⟩
  have hs4 : ss.length ≤ 4 := by rw [hss, stepsF_len (cntF_le is).2]; exact (cntF_le is).2
  have hs16 : ∀ s ∈ ss, s < 16 := by rw [hss]; exact stepsF_lt hslt
  obtain ⟨bd, hbd⟩ : ∃ bd : Nat, bd = boundF (smallF is) := ⟨_, rfl⟩
  rw [← hss, ← hbd] at ok
  have hw2 := (wordsF_ok hs16).1
  have hwo := (wordsF_ok hs16).2
  have hwl : (wordsF ss).length ≤ 16 := by
    rw [wordsF_len]
    have : 2 ^ ss.length ≤ 2 ^ 4 := Nat.pow_le_pow_right (by omega) hs4
    omega
  have hw0 : wordsF ss ≠ [] := by
    intro e
    have := wordsF_len ss
    rw [e] at this
    have : 0 < 2 ^ ss.length := Nat.pow_pos (by omega)
    simp at *
    omega
  have hcl := colF_len (bd : Int) (wordsF ss)
  have hc16 : ∀ c ∈ colF bd (wordsF ss), c < 16 := fun c hc => Nat.lt_of_lt_of_le (colF_lt _ _ c hc) hwl
  have hmw : ∀ w ∈ wordsF ss, ∃ h : Fin 16, w = wordL h.val := fun w hw => by
    unfold wordsF at hw
    obtain ⟨k, _, rfl⟩ := List.mem_map.mp hw
    exact ⟨⟨_, heldF_lt hs16⟩, rfl⟩
  have hso : ((wordsF ss).map sx).all PyData.strOk = true := by
    rw [List.all_eq_true]
    intro s hs
    obtain ⟨w, hw, rfl⟩ := List.mem_map.mp hs
    obtain ⟨h, rfl⟩ := hmw w hw
    exact (word_ok h).1
  have hsw : ∀ w ∈ wordsF ss, okS (Txt.lower (Txt.swapcase (sx w))) = true ∧ (Txt.swapcase (sx w)).length ≤ 1000 ∧ (Txt.lower (Txt.swapcase (sx w))).length ≤ 1000 := fun w hw => by
    obtain ⟨h, rfl⟩ := hmw w hw
    exact (word_ok h).2
  obtain ⟨items, hitems⟩ : ∃ items, items = itemsOf (wordsF ss) (colF bd (wordsF ss)) := ⟨_, rfl⟩
  have hil : items.length = (wordsF ss).length := by rw [hitems]; unfold itemsOf; simp [hcl]
  obtain ⟨ts, hts⟩ : ∃ ts, ts = (List.range items.length).map fun i => 9 + 3 + i := ⟨_, rfl⟩
  have htl : ts.length ≤ 1000 := by rw [hts]; simp; omega
  obtain ⟨R5, hR5⟩ : ∃ R5, R5 = [AO.list ((is.take 12).map .int), .list (nts (smallF is)), .list (nts ss), .list (strsV ((wordsF ss).map sx))] ++ tabOf C hn 9 items := ⟨_, rfl⟩
  have hR5l : R5.length = 7 + items.length := by rw [hR5]; unfold tabOf; simp; omega
  have H5 : Hd5 C hn R5 ts (itemsOf (wordsF ss) (colF bd (wordsF ss))) := fun a0 a1 a2 a3 a4 G => by
    rw [← hitems, hR5, hts]
    have := (tabOf_hdr C hn [a0, a1, a2, a3, a4, AO.list ((is.take 12).map .int), .list (nts (smallF is)), .list (nts ss), .list (strsV ((wordsF ss).map sx))] items).app G
    rw [List.append_assoc] at this ⊢
    exact this
  have S7 : At5 R5 7 (.list (nts ss)) := fun a0 a1 a2 a3 a4 G => by rw [hR5]; rfl
  have W8 : At5 R5 8 (.list (strsV ((wordsF ss).map sx))) := fun a0 a1 a2 a3 a4 G => by rw [hR5]; rfl
  have hLow : ∀ ao ∈ R5, low (R5.length + 5) ao := fun ao hao => by
    have h5 := hR5l
    rw [hR5] at hao
    rcases List.mem_append.mp hao with hao | hao
    · simp only [List.mem_cons, List.not_mem_nil, or_false] at hao
      rcases hao with rfl | rfl | rfl | rfl
      · exact flats_low (ints_flat _)
      · exact flats_low (nts_flat _)
      · exact flats_low (nts_flat _)
      · exact flats_low (strsV_flat _)
    · have hh := tabOf_low ao hao
      refine low_mono hh ?_
      rw [hR5]
      simp only [List.length_append, List.length_cons, List.length_nil]
      omega
  have e1 := lw1_run (is := is) (code := code) hl
  have e2 := lw2_run (is := is) (code := code) Q (a := .list ((is.take 12).map .int)) (sm := smallF is) hl (by omega)
  rw [← hss] at e2
  have e3 := lw3_run (code := code) (q := q) (a := .list ((is.take 12).map .int)) (b := .list (nts ss)) (sm := smallF is) (xs := is.map .int)
  rw [← hbd] at e3
  have e4 := lw4_run (is := is) (code := code) Q (a := .list ((is.take 12).map .int)) (b := .list (nts (smallF is))) (bd := bd) hs4 hs16 (flats_low (ints_flat _)) (flats_low (nts_flat _))
  have e5 := lw5_run (code := code) Q (a := .list ((is.take 12).map .int)) (b := .list (nts (smallF is))) (c := .list (nts ss)) (xs := is.map .int) (bd := bd) hw2 hwo hwl
  rw [← hitems, ← hR5] at e5
  have e6 := lw6_run (is := is) (code := code) (bd := bd) Q H5 htl hcl hwl hc16 (by omega) hLow
  have C6 : At5 (R5 ++ [.list ((colF bd (wordsF ss)).map fun c => .str (numS c)), .list (nts (colF bd (wordsF ss)))]) (R5.length + 6) (.list (nts (colF bd (wordsF ss)))) := by
    have := At5.last (R := R5 ++ [.list ((colF bd (wordsF ss)).map fun c => .str (numS c))]) (ob := .list (nts (colF bd (wordsF ss))))
    rw [List.length_append, List.length_singleton, List.append_assoc] at this
    exact this
  have e7 := lw7_run (is := is) (code := code) (bd := bd) (v5 := none) (v6 := none) (v7 := none) (c1 := none) (c2 := some (.ref (R5.length + 6))) Q (S7.app [.list ((colF bd (wordsF ss)).map fun c => .str (numS c)), .list (nts (colF bd (wordsF ss)))]) hs4 hs16
  have e8 := lw8_run (is := is) (code := code) (bd := bd) (v6 := none) (v7 := none) (c1 := none) Q (H5.app [.list ((colF bd (wordsF ss)).map fun c => .str (numS c)), .list (nts (colF bd (wordsF ss)))]) htl hcl hwl hw0 hc16 (W8.app _) C6 hso ok.val
  have e9 := lw9_run (is := is) (code := code) (bd := bd) (v6 := none) (v7 := none) (c1 := none) Q hwl ((W8.app [.list ((colF bd (wordsF ss)).map fun c => .str (numS c)), .list (nts (colF bd (wordsF ss)))]).app [.list (strsV ((wordsF ss).map sx))]) (C6.app _) (dbF_lt hs4) ok.fill
  obtain ⟨R9, hR9⟩ : ∃ R9, R9 = ((R5 ++ [.list ((colF bd (wordsF ss)).map fun c => .str (numS c)), .list (nts (colF bd (wordsF ss)))]) ++ [.list (strsV ((wordsF ss).map sx))]) ++ [.list (nts (colF bd (wordsF ss)))] := ⟨_, rfl⟩
  have hR9l : R9.length = R5.length + 4 := by rw [hR9]; simp
  have H9 : Hd5 C hn R9 ts (itemsOf (wordsF ss) (colF bd (wordsF ss))) := by rw [hR9]; exact ((H5.app _).app _).app _
  have W9 : At5 R9 8 (.list (strsV ((wordsF ss).map sx))) := by rw [hR9]; exact ((W8.app _).app _).app _
  have C9 : At5 R9 (R5.length + 6) (.list (nts (colF bd (wordsF ss)))) := by rw [hR9]; exact (C6.app _).app _
  have L9 : ∀ ao ∈ R9, low (R9.length + 5) ao := fun ao hao => by
    rw [hR9l]
    rw [hR9] at hao
    simp only [List.mem_append, List.mem_cons, List.not_mem_nil, or_false] at hao
    rcases hao with ((hao | rfl | rfl) | rfl) | rfl
    · exact low_mono (hLow ao hao) (by omega)
    · exact flats_low (nums_flat _)
    · exact flats_low (nts_flat _)
    · exact flats_low (strsV_flat _)
    · exact flats_low (nts_flat _)
  rw [← hR9] at e9
  obtain ⟨X, Y, e10⟩ := lw10_run (is := is) (code := code) (bd := bd) (num := dbF bd ss) Q H9 htl hwl hw2 hc16 (by omega) L9 (kc := R5.length + 6) (by omega)
  have K10 : At5 ((R9 ++ [X, Y]) ++ [.list ((kinF (wordsF ss) (colF bd (wordsF ss)) (Txt.lower ("AC" : Str)) 0).map .int)]) (R9.length + 7) (.list ((kinF (wordsF ss) (colF bd (wordsF ss)) (Txt.lower ("AC" : Str)) 0).map .int)) := by
    have := At5.last (R := R9 ++ [X, Y]) (ob := .list ((kinF (wordsF ss) (colF bd (wordsF ss)) (Txt.lower ("AC" : Str)) 0).map .int))
    rw [List.length_append] at this
    exact this
  obtain ⟨v7', c1', R', e11⟩ := lw_loop (is := is) (code := code) (bd := bd) (num := dbF bd ss) (kk := R9.length + 7) (kc := R5.length + 6) Q htl hwl hcl hw2 hc16 hsw ok.kin (wordsF ss).length 0 ((wordsF ss).length + 1) ((R9 ++ [X, Y]) ++ [.list ((kinF (wordsF ss) (colF bd (wordsF ss)) (Txt.lower ("AC" : Str)) 0).map .int)]) none none (by omega) (by omega) ((H9.app _).app _) ((W9.app _).app _) ((C9.app _).app _) K10
  have hsl8 : (strsV ((wordsF ss).map sx)).length = (wordsF ss).length := by unfold strsV; rw [List.length_map, List.length_map]
  refine ⟨(LS is bd (some (.int (dbF bd ss : Nat))) (some (.ref (R9.length + 7))) v7' c1' (some (.ref (R5.length + 6))) R').drop 1, ?_⟩
  show _ = some (AFlow.ret (.bool true), LS is bd (some (.int (dbF bd ss : Nat))) (some (.ref (R9.length + 7))) v7' c1' (some (.ref (R5.length + 6))) R')
  unfold lawAct
  refine seqT e1 <| seqT e2 <| seqT e3 <| seqT e4 <| seqT e5 <| seqT e6 <| seqT e7 <| seqT e8 <| seqT e9 <| seqT e10 <| seqT (st1 := LS is bd (some (.int (dbF bd ss : Nat))) (some (.ref (R9.length + 7))) v7' c1' (some (.ref (R5.length + 6))) R') ?_ <| seqR rfl
  have hrb := rng_nat (n := (wordsF ss).length) (by omega)
  have hlen : cOr blts q (.blt "len") [.ref 8] [] (LS is bd (some (.int (dbF bd ss : Nat))) (some (.ref (R9.length + 7))) none none (some (.ref (R5.length + 6))) ((R9 ++ [X, Y]) ++ [.list ((kinF (wordsF ss) (colF bd (wordsF ss)) (Txt.lower ("AC" : Str)) 0).map .int)])) = some (.int ((wordsF ss).length : Int), LS is bd (some (.int (dbF bd ss : Nat))) (some (.ref (R9.length + 7))) none none (some (.ref (R5.length + 6))) ((R9 ++ [X, Y]) ++ [.list ((kinF (wordsF ss) (colF bd (wordsF ss)) (Txt.lower ("AC" : Str)) 0).map .int)])) := by
    have := c_lenL (q := q) (st := LS is bd (some (.int (dbF bd ss : Nat))) (some (.ref (R9.length + 7))) none none (some (.ref (R5.length + 6))) ((R9 ++ [X, Y]) ++ [.list ((kinF (wordsF ss) (colF bd (wordsF ss)) (Txt.lower ("AC" : Str)) 0).map .int)])) (k := 8) (((W9.app [X, Y]).app _).zero ..) (by rw [hsl8]; omega)
    rwa [hsl8] at this
  have hsrc : iCall (bVal (.typ "range")) (lCons (bCall (cOr blts q) (bVal (.blt "len")) (lCons (bLoc nmLaw 3) lNil) kNil) lNil) (lawEnv code) (LS is bd (some (.int (dbF bd ss : Nat))) (some (.ref (R9.length + 7))) none none (some (.ref (R5.length + 6))) ((R9 ++ [X, Y]) ++ [.list ((kinF (wordsF ss) (colF bd (wordsF ss)) (Txt.lower ("AC" : Str)) 0).map .int)])) = some (.rng 0 1 (wordsF ss).length, LS is bd (some (.int (dbF bd ss : Nat))) (some (.ref (R9.length + 7))) none none (some (.ref (R5.length + 6))) ((R9 ++ [X, Y]) ++ [.list ((kinF (wordsF ss) (colF bd (wordsF ss)) (Txt.lower ("AC" : Str)) 0).map .int)])) := by
    have hL3 : bLoc nmLaw 3 (lawEnv code) (LS is bd (some (.int (dbF bd ss : Nat))) (some (.ref (R9.length + 7))) none none (some (.ref (R5.length + 6))) ((R9 ++ [X, Y]) ++ [.list ((kinF (wordsF ss) (colF bd (wordsF ss)) (Txt.lower ("AC" : Str)) 0).map .int)])) = some (.ref 8, LS is bd (some (.int (dbF bd ss : Nat))) (some (.ref (R9.length + 7))) none none (some (.ref (R5.length + 6))) ((R9 ++ [X, Y]) ++ [.list ((kinF (wordsF ss) (colF bd (wordsF ss)) (Txt.lower ("AC" : Str)) 0).map .int)])) := rfl
    generalize LS is bd (some (.int (dbF bd ss : Nat))) (some (.ref (R9.length + 7))) none none (some (.ref (R5.length + 6))) ((R9 ++ [X, Y]) ++ [.list ((kinF (wordsF ss) (colF bd (wordsF ss)) (Txt.lower ("AC" : Str)) 0).map .int)]) = S at hL3 hlen ⊢
    have hc : lCons (bCall (cOr blts q) (bVal (.blt "len")) (lCons (bLoc nmLaw 3) lNil) kNil) lNil (lawEnv code) S = some ([.int ((wordsF ss).length : Int)], S) := by
      simp -implicitDefEqProofs only [lCons, lNil, bCall, bVal, kNil, hL3, hlen, Option.bind_some, Option.map_some]
    unfold iCall
    simp -implicitDefEqProofs only [bVal, Option.bind_some, hc, hrb.1, hrb.2, Option.map_some]
  unfold xFor
  rw [hsrc, Option.bind_some]
  exact e11
end
open_top hd for PySem.Challenge.rw_pe0291_01
def G1a : List (Str × AV) := [("len", .blt "len"), ("range", .typ "range"), ("list", .typ "list"), ("min", .blt "min"), ("sum", .blt "sum"), ("sorted", .blt "sorted"), ("int", .typ "int"), ("str", .typ "str"), ("type", .typ "type"), ("set", .typ "set"), ("reversed", .typ "reversed"), ("divmod", .blt "divmod"), ("_substitution_cost", .old 109), ("_levenshtein_distance", .old 116), ("_MOVE_COST", .int 2), ("_CASE_COST", .int 1), ("_MAX_STRING_SIZE", .int 40), ("_DIV_LIMIT", .int 4000), ("_int2digits", .old 81), ("_digits2int", .old 88), ("_divmod_pos", .old 95), ("_div2n1n", .old 67), ("int_divmod", .old 102), ("_law_steps", .old 271), ("_law_word", .old 278), ("_law_coloured", .old 285), ("_law_price", .old 292), ("_law_filled", .old 299), ("_law_doubled", .old 304)]
def G1b : List (Str × AV) := [("Headers", AV.old 260), ("_name_disallowed_re", .old 126), ("_value_disallowed_re", .old 131), ("int_from_string", .old 60), ("_str_to_int_inner", .old 53), ("compute_powers", AV.old 46)]
def G1 : List (Str × AV) := G1a ++ G1b
def codes1 : Str → Option (Addr × TabD) := fun q => if q = "_int2digits.<locals>." then some (80, ⟨76, 90, 4, "_int2digits.<locals>.inner"⟩) else if q = "_digits2int.<locals>." then some (87, ⟨83, 105, 4, "_digits2int.<locals>.inner"⟩) else if q = "_str_to_int_inner.<locals>." then some (52, ⟨48, 50, 4, "_str_to_int_inner.<locals>.inner"⟩) else if q = "compute_powers.<locals>." then some (45, ⟨41, 0, 0, "x"⟩) else .none
def codeIn (K : Frag) (a : Addr) : Value := match fiOf K a with | some fi => fi.code | .none => .none
def defIn : List Stmt → Option (Arguments × List Stmt × Scope)
  | .FunctionDef _ args body _ _ _ scope _ _ _ :: _ => some (args, body, scope)
  | _ :: r => defIn r
  | [] => .none
def innIn (K : Frag) (a : Addr) : Arguments × List Stmt × Scope := ((fiOf K a).bind fun fi => defIn fi.body).getD default
section
variable (P : Params) (c : CallF) (m : MethF) (ga : AV → Str → St → Option AV) (sa : AV → Str → AV → St → Option St) (loops : Nat) (L : St) (a b x : AV)
theorem prep_sub : prep (hd.heap_39 P) ⟨G1, c, m, ga, sa, codes1, loops⟩ 60 109 [a, b] [] L = some (L, [.ns nmSub [some a, some b]], [], codeIn (hd.heap_39 P) 109, subAct c m) := by kernel_rfl
theorem prep_lev : prep (hd.heap_39 P) ⟨G1, c, m, ga, sa, codes1, loops⟩ 60 116 [a, b, x] [] L = some (L, [.ns nmLev [some a, some b, some x, none, none, none, none, none, none, none, none, none, none, none]], [], codeIn (hd.heap_39 P) 116, levAct 109 loops c) := by kernel_rfl
theorem prep_i2d : prep (hd.heap_39 P) ⟨G1, c, m, ga, sa, codes1, loops⟩ 60 81 [a, b] [] L = some (L, [.ns nmA [some a], .cell (some b), .cell none, .cell none], [1, 2, 3], codeIn (hd.heap_39 P) 81, intAct (innIn (hd.heap_39 P) 81).1 (innIn (hd.heap_39 P) 81).2.1 (innIn (hd.heap_39 P) 81).2.2 80 76 c m) := by kernel_rfl
theorem prep_i2di : prepC ⟨G1, c, m, ga, sa, codes1, loops⟩ 60 (innIn (hd.heap_39 P) 81).1 (innIn (hd.heap_39 P) 81).2.1 (innIn (hd.heap_39 P) 81).2.2 "_int2digits.<locals>.inner" ["n", "inner", "a_digits"] [a, b, x] = some ([.ns nmI [some a, some b, some x, none, none, none, none]], intIn c) := by kernel_rfl
theorem prep_d2i : prep (hd.heap_39 P) ⟨G1, c, m, ga, sa, codes1, loops⟩ 60 88 [a, b] [] L = some (L, [.ns [] [], .cell (some a), .cell (some b), .cell none], [1, 2, 3], codeIn (hd.heap_39 P) 88, digAct (innIn (hd.heap_39 P) 88).1 (innIn (hd.heap_39 P) 88).2.1 (innIn (hd.heap_39 P) 88).2.2 87 83 c) := by kernel_rfl
theorem prep_d2ii : prepC ⟨G1, c, m, ga, sa, codes1, loops⟩ 60 (innIn (hd.heap_39 P) 88).1 (innIn (hd.heap_39 P) 88).2.1 (innIn (hd.heap_39 P) 88).2.2 "_digits2int.<locals>.inner" ["n", "inner", "digits"] [a, b] = some ([.ns nmD [some a, some b, none, none]], digIn c) := by kernel_rfl
theorem prep_div : prep (hd.heap_39 P) ⟨G1, c, m, ga, sa, codes1, loops⟩ 60 67 [a, b, x] [] L = some (L, [.ns nmV [some a, some b, some x, none, none, none, none, none, none, none, none]], [], codeIn (hd.heap_39 P) 67, divAct c m) := by kernel_rfl
theorem prep_dm : prep (hd.heap_39 P) ⟨G1, c, m, ga, sa, codes1, loops⟩ 60 102 [a, b] [] L = some (L, [.ns nmM [some a, some b, none, none]], [], codeIn (hd.heap_39 P) 102, dmAct 102 95 c) := by kernel_rfl
theorem prep_conv : prep (hd.heap_39 P) ⟨G1, c, m, ga, sa, codes1, loops⟩ 60 161 [a, b] [("name", x)] L = some (L, [.ns nmC [some a, some b, some x, none]], [], codeIn (hd.heap_39 P) 161, convAct 126 131 c m) := by kernel_rfl
theorem prep_items : prep (hd.heap_39 P) ⟨G1, c, m, ga, sa, codes1, loops⟩ 60 224 [a] [] L = some (L, [.ns nmSelf [some a]], [], codeIn (hd.heap_39 P) 224, itemsAct ga) := by kernel_rfl
theorem prep_keys : prep (hd.heap_39 P) ⟨G1, c, m, ga, sa, codes1, loops⟩ 60 212 [a] [] L = some (L, [.ns nmSelf [some a]], [], codeIn (hd.heap_39 P) 212, kvAct 1 ga) := by kernel_rfl
theorem prep_vals : prep (hd.heap_39 P) ⟨G1, c, m, ga, sa, codes1, loops⟩ 60 217 [a] [] L = some (L, [.ns nmSelf [some a]], [], codeIn (hd.heap_39 P) 217, kvAct 2 ga) := by kernel_rfl
theorem prep_cp : prep (hd.heap_39 P) ⟨G1, c, m, ga, sa, codes1, loops⟩ 60 46 [a, b, x] [] L = some (L, [.ns nmCP [some a, some b, some x, some (.bool false), none, none, none, none, none, none, none, none, none, none]], [], codeIn (hd.heap_39 P) 46, cpAct 45 loops c m) := by kernel_rfl
theorem prep_si : prep (hd.heap_39 P) ⟨G1, c, m, ga, sa, codes1, loops⟩ 60 53 [a] [] L = some (L, [.ns [] [], .cell (some a), .cell none, .cell none, .cell none], [1, 2, 3, 4], codeIn (hd.heap_39 P) 53, siAct 46 (innIn (hd.heap_39 P) 53).1 (innIn (hd.heap_39 P) 53).2.1 (innIn (hd.heap_39 P) 53).2.2 52 48 c) := by kernel_rfl
theorem prep_sii : prepC ⟨G1, c, m, ga, sa, codes1, loops⟩ 60 (innIn (hd.heap_39 P) 53).1 (innIn (hd.heap_39 P) 53).2.1 (innIn (hd.heap_39 P) 53).2.2 "_str_to_int_inner.<locals>.inner" ["w5pow", "s", "inner", "DIGLIM"] [a, b] = some ([.ns nmSi [some a, some b, none]], siIn c) := by kernel_rfl
theorem prep_ifs : prep (hd.heap_39 P) ⟨G1, c, m, ga, sa, codes1, loops⟩ 60 60 [a] [] L = some (L, [.ns nmF [some a]], [], codeIn (hd.heap_39 P) 60, ifsAct 53 c m) := by kernel_rfl
theorem prep_ga : prep (hd.heap_39 P) ⟨G1, c, m, ga, sa, codes1, loops⟩ 60 199 [a, b] [] L = some (L, [.ns nmSelf [some a], .cell (some b)], [1], codeIn (hd.heap_39 P) 199, gaAct c m ga) := by kernel_rfl
theorem prep_ah : prep (hd.heap_39 P) ⟨G1, c, m, ga, sa, codes1, loops⟩ 60 257 [a, b, x] [] L = some (L ++ [.edict], [.ns nmAH [some a, some b, some x, some (.ref L.length), none, none, none]], [], codeIn (hd.heap_39 P) 257, ahAct c m ga) := by kernel_rfl
theorem prep_steps : prep (hd.heap_39 P) ⟨G1, c, m, ga, sa, codes1, loops⟩ 60 271 [a, b] [] L = some (L, [.ns nmSt [some a, some b, none, none]], [], codeIn (hd.heap_39 P) 271, stepsAct c) := by kernel_rfl
theorem prep_word : prep (hd.heap_39 P) ⟨G1, c, m, ga, sa, codes1, loops⟩ 60 278 [a, b] [] L = some (L, [.ns nmW [some a, some b, none, none, none, none]], [], codeIn (hd.heap_39 P) 278, wordAct 81 c) := by kernel_rfl
theorem prep_price : prep (hd.heap_39 P) ⟨G1, c, m, ga, sa, codes1, loops⟩ 60 292 [a] [] L = some (L, [.ns nmPr [some a]], [], codeIn (hd.heap_39 P) 292, priceAct) := by kernel_rfl
theorem prep_filled : prep (hd.heap_39 P) ⟨G1, c, m, ga, sa, codes1, loops⟩ 60 299 [a, b] [] L = some (L, [.ns nmFi [some a, some b]], [], codeIn (hd.heap_39 P) 299, filledAct 81 c) := by kernel_rfl
theorem prep_co : prep (hd.heap_39 P) ⟨G1, c, m, ga, sa, codes1, loops⟩ 60 285 [a, b] [] L = some (L, [.ns nmCo [some a, some b, none, none, none, none, none, none]], [], codeIn (hd.heap_39 P) 285, coAct 260 116 loops c m) := by kernel_rfl
theorem prep_db : prep (hd.heap_39 P) ⟨G1, c, m, ga, sa, codes1, loops⟩ 60 304 [a, b] [] L = some (L, [.ns nmDb [some a, none, none, none, none], .cell (some b), .cell none, .cell none, .cell none, .cell none], [1, 2, 3, 4, 5], codeIn (hd.heap_39 P) 304, dbAct 299 292 102 c) := by kernel_rfl
theorem prep_law : prep (hd.heap_39 P) ⟨G1, c, m, ga, sa, codes1, loops⟩ 60 309 [a] [] L = some (L, [.ns nmLaw [some a, none, none, none, none, none, none, none], .cell none, .cell none, .cell none], [1, 2, 3], codeIn (hd.heap_39 P) 309, lawAct 271 278 285 60 304 88 299 c m) := by kernel_rfl
end
def codeAtIn (K : Frag) (c P : Addr) : Bool := match K.lookup c with
  | some o => (match o.cls, o.data with
    | .type s, .fields vs => s == "code" && (match vs.getD 11 .none, (vs[11]? : Option Value), vs.getD 18 .none, vs.getD 7 .none, vs.getD 9 .none, vs.getD 10 .none with
      | .ref p, some (.ref p'), .str _ _, .int _ _, .bool _, .int _ _ => p == P && p' == P && c != P
      | _, _, _, _, _, _ => false)
    | _, _ => false)
  | _ => false
theorem codeAtIn_ok {K : Frag} {h : Heap} {c P : Addr} (X : K.In h) (e : codeAtIn K c P = true) : CodeAt h c P := by
  unfold codeAtIn at e
  split at e
  · rename_i o hl
    split at e
    · rename_i s vs h1 h2
      obtain ⟨e1, e⟩ := Bool.and_eq_true_iff.mp e
      split at e
      · rename_i p p' file tf flags tg inF text tt g1 g2 g3 g4 g5 g6
        obtain ⟨e, e4⟩ := Bool.and_eq_true_iff.mp e
        obtain ⟨e2, e3⟩ := Bool.and_eq_true_iff.mp e
        have e1 := eq_of_beq e1
        have e2 := eq_of_beq e2
        have e3 := eq_of_beq e3
        subst e1 e2 e3
        exact ⟨o, vs, file, tf, flags, tg, inF, text, tt, X _ _ hl, h1, h2, g1, g2, g3, g4, g5, g6, by simpa using e4⟩
      · cases e
    · cases e
  · cases e
def hns1 : List Str := ["_headers", "__init__", "_convert_string_type", "__len__", "__setitem__", "__delitem__", "__getitem__", "__contains__", "get_all", "get", "keys", "values", "items", "__repr__", "__str__", "__bytes__", "setdefault", "add_header"]
def tabs1 : List TabD := [⟨76, 90, 4, "_int2digits.<locals>.inner"⟩, ⟨83, 105, 4, "_digits2int.<locals>.inner"⟩, ⟨48, 50, 4, "_str_to_int_inner.<locals>.inner"⟩]
theorem code_ok1 (P : Params) : (codeAtIn (hd.heap_39 P) 80 76 && (codeAtIn (hd.heap_39 P) 87 83 && (codeAtIn (hd.heap_39 P) 52 48 && codeAtIn (hd.heap_39 P) 45 41))) = true := by kernel_rfl
theorem tabs1_one {t t' : TabD} (ht : t' ∈ tabs1) (hP : t'.P = t.P) (h : t ∈ tabs1 := by simp [tabs1]) : t' = t := by
  simp only [tabs1, List.mem_cons, List.not_mem_nil, or_false] at ht h
  rcases ht with rfl | rfl | rfl <;> rcases h with rfl | rfl | rfl <;> first | rfl | cases hP
def X1 (P : Params) (mg : Str → Option Value) : Heap → List TabD → Prop := fun h tb => (hd.heap_39 P).In h ∧ Bmod h mg ∧ tb = tabs1
noncomputable def sys1 (P : Params) (prog : Program) (w : World) (mg mb : Str → Option Value) : Sys prog w mg mb (X1 P mg) where
  K := hd.heap_39 P
  G := G1
  m := mOr mStr (mOr mSet (mOr (mInst (hd.heap_39 P)) (mRe (hd.heap_39 P))))
  ga := gaK (hd.heap_39 P)
  sa := saK (hd.heap_39 P) hns1
  codes := codes1
  loops := 20
  hK := fun h tb x => x.1
  hR := fun d c hc => {
    c := hc
    m := sound_mor sound_mstr (sound_mor sound_mset (sound_mor (mInst_ok fun h tb x => x.1) (sound_mre fun h tb x => x.1)))
    ga := fun B x name st v hB h ρ xv s A hA hx S => gaK_ok (fun h tb x => x.1) hB h hx S
    sa := fun B x name v st st' hB h ρ xv vv s A hA hx hv S => saK_ok (fun h tb x => x.1) hB h hx hv S
    codes := fun q cp hq h tb x => by
      obtain ⟨hin, _, rfl⟩ := x
      have hc := code_ok1 P
      simp only [Bool.and_eq_true] at hc
      obtain ⟨h1, h2, h3, h4⟩ := hc
      have hq : codes1 q = some cp := hq
      unfold codes1 at hq
      split at hq
      · cases hq; exact ⟨codeAtIn_ok hin h1, fun _ => ⟨by simp [tabs1], fun t' ht hP => tabs1_one ht hP⟩⟩
      split at hq
      · cases hq; exact ⟨codeAtIn_ok hin h2, fun _ => ⟨by simp [tabs1], fun t' ht hP => tabs1_one ht hP⟩⟩
      split at hq
      · cases hq; exact ⟨codeAtIn_ok hin h3, fun _ => ⟨by simp [tabs1], fun t' ht hP => tabs1_one ht hP⟩⟩
      split at hq
      · cases hq; exact ⟨codeAtIn_ok hin h4, fun hl => absurd hl (by decide)⟩
      · cases hq
    bm := fun h tb x => x.2.1 }
theorem plain1 (P : Params) : plainCls (hd.heap_39 P) 260 = true := by kernel_rfl
theorem hdrs1 (P : Params) : (findIn (hd.heap_39 P) (.ref 260) "_headers" == some none) = true := by kernel_rfl
theorem sets1 (P : Params) : setsIn (hd.heap_39 P) 260 "_headers" = true := by kernel_rfl
def m1 (K : Frag) : MethF := mOr mStr (mOr mSet (mOr (mInst K) (mRe K)))
theorem hdrOk1 (P : Params) : HdrOk 260 hns1 (m1 (hd.heap_39 P)) (gaK (hd.heap_39 P)) := ⟨fun st k d l h1 h2 => by
  unfold gaK
  dsimp only
  rw [h1]
  dsimp only
  rw [if_pos ⟨plain1 P, hdrs1 P⟩, h2]
  rfl⟩
theorem meth1 (P : Params) (name : Str) (f : Addr) (hs : ∀ l, noShadow hns1 (some (.ref l) :: List.replicate (hns1.length - 1) .none) name = true) (hf : findIn (hd.heap_39 P) (.ref 260) name = some (some (.ref f))) (ht : (typeIn (hd.heap_39 P) (.ref f) == some (.type "function")) = true) : HdrMeth 260 hns1 (m1 (hd.heap_39 P)) name f := fun st k d l h1 h2 => by
  have e1 : mStr (.ref k) name st = none := by
    unfold mStr
    dsimp only
    unfold listAt
    rw [h1]
    rfl
  have e2 : mSet (.ref k) name st = none := by
    unfold mSet
    dsimp only
    rw [h1]
  have e3 : mInst (hd.heap_39 P) (.ref k) name st = some (.old f, [.ref k]) := by
    unfold mInst
    dsimp only
    rw [h1]
    dsimp only
    rw [if_pos (plain1 P), h2]
    dsimp only
    rw [if_pos (hs l), hf]
    dsimp only
    rw [if_pos ht]
  unfold m1 mOr
  rw [e1]
  dsimp only
  rw [e2]
  dsimp only
  rw [e3]
theorem mItems (P : Params) : HdrMeth 260 hns1 (m1 (hd.heap_39 P)) "items" 224 := meth1 P _ _ (fun l => rfl) (by kernel_rfl) (by kernel_rfl)
theorem mKeys (P : Params) : HdrMeth 260 hns1 (m1 (hd.heap_39 P)) "keys" 212 := meth1 P _ _ (fun l => rfl) (by kernel_rfl) (by kernel_rfl)
theorem mValues (P : Params) : HdrMeth 260 hns1 (m1 (hd.heap_39 P)) "values" 217 := meth1 P _ _ (fun l => rfl) (by kernel_rfl) (by kernel_rfl)
theorem mGetAll (P : Params) : HdrMeth 260 hns1 (m1 (hd.heap_39 P)) "get_all" 199 := meth1 P _ _ (fun l => rfl) (by kernel_rfl) (by kernel_rfl)
theorem mAdd (P : Params) : HdrMeth 260 hns1 (m1 (hd.heap_39 P)) "add_header" 257 := meth1 P _ _ (fun l => rfl) (by kernel_rfl) (by kernel_rfl)
theorem mConv (P : Params) : HdrMeth 260 hns1 (m1 (hd.heap_39 P)) "_convert_string_type" 161 := meth1 P _ _ (fun l => rfl) (by kernel_rfl) (by kernel_rfl)
theorem make1 (P : Params) : makeIn (hd.heap_39 P) 260 = some 154 := by kernel_rfl
theorem nomake1 (P : Params) : makeIn (hd.heap_39 P) 116 = none ∧ makeIn (hd.heap_39 P) 224 = none ∧ makeIn (hd.heap_39 P) 257 = none := ⟨by kernel_rfl, by kernel_rfl, by kernel_rfl⟩
theorem saOk1 (P : Params) (st : St) (k d : Nat) (v : AV) (h1 : st[k]? = some (.inst 260 d)) (h2 : st[d]? = some .edict) : saK (hd.heap_39 P) hns1 (.ref k) ("_headers" : Str) v st = some (st.set d (.ns hns1 (some v :: List.replicate (hns1.length - 1) .none))) := by
  unfold saK
  dsimp only
  rw [h1]
  dsimp only
  rw [if_pos (sets1 P), h2]
  rfl
theorem prep_dp (P : Params) (c : CallF) (m : MethF) (ga : AV → Str → St → Option AV) (sa : AV → Str → AV → St → Option St) (loops : Nat) (L : St) (a b : AV) : prep (hd.heap_39 P) ⟨G1, c, m, ga, sa, codes1, loops⟩ 60 95 [a, b] [] L = some (L, [.ns nmP [some a, some b, none, none, none, none, none, none, none]], [], codeIn (hd.heap_39 P) 95, dpAct 81 67 88 c m) := by kernel_rfl
theorem prep_init (P : Params) (c : CallF) (m : MethF) (ga : AV → Str → St → Option AV) (sa : AV → Str → AV → St → Option St) (loops : Nat) (L : St) (a b : AV) : prep (hd.heap_39 P) ⟨G1, c, m, ga, sa, codes1, loops⟩ 60 154 [a, b] [] L = some (L, [.ns nmIn [some a, some b, none, none]], [], codeIn (hd.heap_39 P) 154, initAct "" "" c m sa) := by kernel_rfl
theorem code80 (P : Params) : isCode (codeIn (hd.heap_39 P) 81) 80 = true := by kernel_rfl
theorem code87 (P : Params) : isCode (codeIn (hd.heap_39 P) 88) 87 = true := by kernel_rfl
theorem code52 (P : Params) : isCode (codeIn (hd.heap_39 P) 53) 52 = true := by kernel_rfl
theorem code45 (P : Params) : isCode (codeIn (hd.heap_39 P) 46) 45 = true := by kernel_rfl
theorem free81 (P : Params) : freeOf (innIn (hd.heap_39 P) 81).2.2 = (["a_digits", "inner", "n"] : List Str) := by kernel_rfl
theorem free88 (P : Params) : freeOf (innIn (hd.heap_39 P) 88).2.2 = (["digits", "inner", "n"] : List Str) := by kernel_rfl
theorem free53 (P : Params) : freeOf (innIn (hd.heap_39 P) 53).2.2 = (["DIGLIM", "inner", "s", "w5pow"] : List Str) := by kernel_rfl
section
variable (P : Params) (prog : Program) (w : World) (mg mb : Str → Option Value)
theorem t_i2d (d : Nat) : (sys1 P prog w mg mb).CC (d + 9) (sumI2d 81) := i2d_told (P := 76) (cA := 80) (sys1 P prog w mg mb) d rfl (free81 P) (fun c x y z => prep_i2di P c _ _ _ _ x y z) fun c x y L => ⟨_, code80 P, prep_i2d P c _ _ _ _ L x y⟩
theorem t_d2i (d : Nat) : (sys1 P prog w mg mb).CC (d + 9) (sumD2i 88) := d2i_told (P := 83) (cA := 87) (sys1 P prog w mg mb) d (free88 P) (fun c x y => prep_d2ii P c _ _ _ _ x y) fun c x y L => ⟨_, code87 P, prep_d2i P c _ _ _ _ L x y⟩
theorem t_sub (d : Nat) : (sys1 P prog w mg mb).CC (d + 1) (sumSub 109) := sub_told (sys1 P prog w mg mb) rfl fun c x y L => ⟨_, prep_sub P c _ _ _ _ L x y⟩
theorem t_lev (d : Nat) : (sys1 P prog w mg mb).CC (d + 2) (sumLev 116) := lev_told (sys1 P prog w mg mb) (by show 8 < 20; omega) (t_sub P prog w mg mb d) fun c x y z L => ⟨_, prep_lev P c _ _ _ _ L x y z⟩
theorem t_div (d : Nat) : (sys1 P prog w mg mb).CC (d + 1) (sumDiv 67) := div_told (sys1 P prog w mg mb) d rfl fun c x y z L => ⟨_, prep_div P c _ _ _ _ L x y z⟩
theorem t_steps (d : Nat) : (sys1 P prog w mg mb).CC (d + 1) (sumSteps 271) := steps_told (sys1 P prog w mg mb) d fun c x y L => ⟨_, prep_steps P c _ _ _ _ L x y⟩
theorem t_word (d : Nat) : (sys1 P prog w mg mb).CC (d + 10) (sumWord 278) := word_told (sys1 P prog w mg mb) (d + 9) (t_i2d P prog w mg mb d).c fun c x y L => ⟨_, prep_word P c _ _ _ _ L x y⟩
theorem t_price (d : Nat) : (sys1 P prog w mg mb).CC (d + 1) (sumPrice 292) := price_told (sys1 P prog w mg mb) d fun c x L => ⟨_, prep_price P c _ _ _ _ L x⟩
theorem t_filled (d : Nat) : (sys1 P prog w mg mb).CC (d + 10) (sumFilled 299) := filled_told (sys1 P prog w mg mb) (d + 9) (t_i2d P prog w mg mb d).c fun c x y L => ⟨_, prep_filled P c _ _ _ _ L x y⟩
theorem t_items (d : Nat) : (sys1 P prog w mg mb).CC (d + 1) (cRel (RItems 260 hns1 224)) := items_told (sys1 P prog w mg mb) d (hdrOk1 P) fun c x L => ⟨_, prep_items P c _ _ _ _ L x⟩
theorem t_cp (d : Nat) : (sys1 P prog w mg mb).CC (d + 1) (sumCp 46) := cp_told (cA := 45) (sys1 P prog w mg mb) d rfl (by show 2 < 20; omega) fun c x y z L => ⟨_, code45 P, prep_cp P c _ _ _ _ L x y z⟩
theorem t_si (d : Nat) : (sys1 P prog w mg mb).CC (d + 2) (sumSi 53) := si_told (P := 48) (cA := 52) (sys1 P prog w mg mb) d (t_cp P prog w mg mb d).c (free53 P) (fun c x y => prep_sii P c _ _ _ _ x y) fun c x L => ⟨_, code52 P, prep_si P c _ _ _ _ L x⟩
theorem t_ifs (d : Nat) : (sys1 P prog w mg mb).CC (d + 3) (sumIfs 60) := ifs_told (sys1 P prog w mg mb) (d + 2) rfl (t_si P prog w mg mb d).c fun c x L => ⟨_, prep_ifs P c _ _ _ _ L x⟩
theorem t_dp (d : Nat) : (sys1 P prog w mg mb).CC (d + 10) (sumDp 95) := dp_told (cI := 80) (cD := 87) (sys1 P prog w mg mb) (d + 9) rfl (t_i2d P prog w mg mb d).c (t_div P prog w mg mb (d + 8)).c (t_d2i P prog w mg mb d).c (by decide) (by decide) (by decide) fun c x y L => ⟨_, prep_dp P c _ _ _ _ L x y⟩
theorem t_dm (d : Nat) : (sys1 P prog w mg mb).CC (d + 11) (sumDp 102) := dm_told (sys1 P prog w mg mb) (d + 10) (t_dp P prog w mg mb d).c fun c x y L => ⟨_, prep_dm P c _ _ _ _ L x y⟩
theorem t_init (d : Nat) : (sys1 P prog w mg mb).CC (d + 1) (cRel (RInit 260 hns1 154)) := init_told (x1 := "") (x2 := "") (sys1 P prog w mg mb) d (saOk1 P) fun c x y L => ⟨_, prep_init P c _ _ _ _ L x y⟩
theorem t_db (d : Nat) : (sys1 P prog w mg mb).CC (d + 12) (sumDb 304) := db_told (sys1 P prog w mg mb) (d + 11) (t_filled P prog w mg mb (d + 1)).c (t_price P prog w mg mb (d + 10)).c (t_dm P prog w mg mb d).c (by decide) fun c x y L => ⟨_, prep_db P c _ _ _ _ L x y⟩
end
def patIs (K : Frag) (a : Addr) (code : Array Nat) : Bool := match patIn K a with
  | some (0, items) => items.map (·.toNat) == code
  | _ => false
theorem patIs_ok {K : Frag} {a : Addr} {code : Array Nat} (h : patIs K a code = true) : PatOk K a code := by
  unfold patIs at h
  split at h
  · rename_i items e
    exact ⟨items, e, eq_of_beq h⟩
  · cases h
theorem patN (P : Params) : patIs (hd.heap_39 P) 126 codeN = true := by kernel_rfl
theorem patV (P : Params) : patIs (hd.heap_39 P) 131 codeV = true := by kernel_rfl
theorem seekN (P : Params) (st : St) : m1 (hd.heap_39 P) (.old 126) "search" st = some (.blt "re.Pattern.search", [.old 126]) := by kernel_rfl
theorem seekV (P : Params) (st : St) : m1 (hd.heap_39 P) (.old 131) "search" st = some (.blt "re.Pattern.search", [.old 131]) := by kernel_rfl
section
variable (P : Params) (prog : Program) (w : World) (mg mb : Str → Option Value)
theorem t_conv (d : Nat) : (sys1 P prog w mg mb).CC (d + 1) (sumConv 161) := conv_told (aN := 126) (aV := 131) (r0 := mOr mSet (mOr (mInst (hd.heap_39 P)) (mRe (hd.heap_39 P)))) (sys1 P prog w mg mb) d (fun st => ⟨seekN P st, seekV P st⟩) (patIs_ok (patN P)) (patIs_ok (patV P)) fun c x y z L => ⟨_, prep_conv P c _ _ _ _ L x y z⟩
theorem t_keys (d : Nat) : (sys1 P prog w mg mb).CC (d + 1) (cRel (RKV 260 hns1 212 (·.1))) := kv_told (j := 1) (sys1 P prog w mg mb) d (fun code cs M p a => by
  unfold bLoc; dsimp only; rw [getK]; rfl) (hdrOk1 P) fun c x L => ⟨_, prep_keys P c _ _ _ _ L x⟩
theorem t_vals (d : Nat) : (sys1 P prog w mg mb).CC (d + 1) (cRel (RKV 260 hns1 217 (·.2))) := kv_told (j := 2) (sys1 P prog w mg mb) d (fun code cs M p a => by
  unfold bLoc; dsimp only; rw [getK]; rfl) (hdrOk1 P) fun c x L => ⟨_, prep_vals P c _ _ _ _ L x⟩
theorem t_ga (d : Nat) : (sys1 P prog w mg mb).CC (d + 2) (cRel (RGA 260 hns1 199)) := ga_told (sys1 P prog w mg mb) (d + 1) rfl (hdrOk1 P) (mConv P) (t_conv P prog w mg mb d).c fun c x y L => ⟨_, prep_ga P c _ _ _ _ L x y⟩
theorem t_ah (d : Nat) : (sys1 P prog w mg mb).CC (d + 2) (cRel (RAdd 260 hns1 257)) := ah_told (sys1 P prog w mg mb) (d + 1) rfl (hdrOk1 P) (mConv P) (t_conv P prog w mg mb d).c fun c x y z L => ⟨_, prep_ah P c _ _ _ _ L x y z⟩
theorem t_make (d : Nat) : (sys1 P prog w mg mb).C (d + 2) (cMake (hd.heap_39 P) (cRel (RInit 260 hns1 154))) := sound_make (fun h tb x => x.1) (t_init P prog w mg mb d)
theorem t_col (d : Nat) : (sys1 P prog w mg mb).CC (d + 3) (cRel (RCol 260 hns1 285)) := col_told (aH := 260) (aL := 116) (aIt := 224) (aAd := 257) (fI := 154) (sys1 P prog w mg mb) (d + 2) rfl (mItems P) (mAdd P) (by show 18 ≤ 20; omega) (make1 P) rfl (t_lev P prog w mg mb d).c (t_items P prog w mg mb (d + 1)).c (t_ah P prog w mg mb d).c (t_make P prog w mg mb d) (nomake1 P) (by decide) fun c x y L => ⟨_, prep_co P c _ _ _ _ L x y⟩
end
noncomputable def q1 : CallF := cOr (sumSteps 271) (cOr (sumWord 278) (cOr (cRel (RCol 260 hns1 285)) (cOr (sumIfs 60) (cOr (sumDb 304) (cOr (sumD2i 88) (cOr (sumFilled 299) (cOr (cRel (RKV 260 hns1 212 (·.1))) (cOr (cRel (RKV 260 hns1 217 (·.2))) (cRel (RGA 260 hns1 199))))))))))
theorem t_q1 (P : Params) (prog : Program) (w : World) (mg mb : Str → Option Value) : (sys1 P prog w mg mb).C 12 q1 :=
  sound_cor (t_steps P prog w mg mb 11).c <| sound_cor (t_word P prog w mg mb 2).c <| sound_cor (t_col P prog w mg mb 9).c <| sound_cor (t_ifs P prog w mg mb 9).c <| sound_cor (t_db P prog w mg mb 0).c <| sound_cor (t_d2i P prog w mg mb 3).c <| sound_cor (t_filled P prog w mg mb 2).c <| sound_cor (t_keys P prog w mg mb 11).c <| sound_cor (t_vals P prog w mg mb 11).c (t_ga P prog w mg mb 10).c
theorem cRel_no {R : AV → List AV → List (Str × AV) → St → AV × St → Prop} {f : AV} {args : List AV} {kw : List (Str × AV)} {st : St} (h : ∀ r, ¬ R f args kw st r) : cRel R f args kw st = none := by
  unfold cRel
  rw [dif_neg]
  rintro ⟨r, hr⟩
  exact h r hr
theorem noCol {a : Addr} {args : List AV} {kw : List (Str × AV)} {st : St} (h : a ≠ 285) : cRel (RCol 260 hns1 285) (.old a) args kw st = none := cRel_no fun r ⟨wk, b, ws, e, _⟩ => by cases e; exact h rfl
theorem noKV {aF a : Addr} {pr : Str × Str → Str} {args : List AV} {kw : List (Str × AV)} {st : St} (h : a ≠ aF) : cRel (RKV 260 hns1 aF pr) (.old a) args kw st = none := cRel_no fun r ⟨k, d, l, ts, items, e, _⟩ => by cases e; exact h rfl
theorem noSteps {a : Addr} {args : List AV} {kw : List (Str × AV)} {st : St} (h : a ≠ 271) : sumSteps 271 (.old a) args kw st = none := by
  unfold sumSteps
  split
  · rename_i a' k n e
    injection e with e
    subst e
    cases listAt st k with
    | none => rfl
    | some xs =>
      rw [Option.bind_some]
      cases natsOf xs with
      | none => rfl
      | some sm => rw [Option.bind_some, if_neg (fun hh => h hh.1)]
  · rfl
theorem noWord {a : Addr} {args : List AV} {kw : List (Str × AV)} {st : St} (h : a ≠ 278) : sumWord 278 (.old a) args kw st = none := by
  unfold sumWord
  split
  · rename_i a' k ks e
    injection e with e
    subst e
    cases listAt st ks with
    | none => rfl
    | some xs =>
      rw [Option.bind_some]
      cases natsOf xs with
      | none => rfl
      | some sm => rw [Option.bind_some, if_neg (fun hh => h hh.1)]
  · rfl
theorem noDb {a : Addr} {args : List AV} {kw : List (Str × AV)} {st : St} (h : a ≠ 304) : sumDb 304 (.old a) args kw st = none := by
  unfold sumDb
  split
  · rename_i a' k n e
    injection e with e
    subst e
    cases listAt st k with
    | none => rfl
    | some xs =>
      rw [Option.bind_some]
      cases natsOf xs with
      | none => rfl
      | some sm => rw [Option.bind_some, if_neg (fun hh => h hh.1)]
  · rfl
theorem noD2i {a : Addr} {args : List AV} {kw : List (Str × AV)} {st : St} (h : a ≠ 88) : sumD2i 88 (.old a) args kw st = none := by
  unfold sumD2i
  split
  · rename_i a' k n e
    injection e with e
    subst e
    cases listAt st k with
    | none => rfl
    | some xs =>
      rw [Option.bind_some]
      cases natsOf xs with
      | none => rfl
      | some sm => rw [Option.bind_some, if_neg (fun hh => h hh.1)]
  · rfl
theorem noIfs {a : Addr} {args : List AV} {kw : List (Str × AV)} {st : St} (h : a ≠ 60) : sumIfs 60 (.old a) args kw st = none := by
  unfold sumIfs
  split
  · rename_i a' s e
    injection e with e
    subst e
    rw [if_neg (fun hh => h hh.1)]
  · rfl
theorem noFilled {a : Addr} {args : List AV} {kw : List (Str × AV)} {st : St} (h : a ≠ 299) : sumFilled 299 (.old a) args kw st = none := by
  unfold sumFilled
  split
  · rename_i a' s n e
    injection e with e
    subst e
    rw [if_neg (fun hh => h hh.1)]
  · rfl
theorem lawQ1 (P : Params) : LawQ q1 (m1 (hd.heap_39 P)) 271 278 285 60 304 88 299 260 hns1 212 217 199 where
  st := fun h h0 h4 hl => cor_l (sumSteps_at h h0 h4 hl)
  wo := fun h hk hl hs => cor_r (noSteps (by decide)) <| cor_l (sumWord_at h hk hl hs)
  co := fun h h1 h2 h3 => cor_r (noSteps (by decide)) <| cor_r (noWord (by decide)) <| cor_l (RCol_at h h1 h2 h3)
  fs := fun h => cor_r (noSteps (by decide)) <| cor_r (noWord (by decide)) <| cor_r (noCol (by decide)) <| cor_l (sumIfs_num h)
  db := fun h hl hs => cor_r (noSteps (by decide)) <| cor_r (noWord (by decide)) <| cor_r (noCol (by decide)) <| cor_r (noIfs (by decide)) <| cor_l (sumDb_at h hl hs)
  di := fun h hl hs => cor_r (noSteps (by decide)) <| cor_r (noWord (by decide)) <| cor_r (noCol (by decide)) <| cor_r (noIfs (by decide)) <| cor_r (noDb (by decide)) <| cor_l (sumD2i_at (n := 4) h (by omega) hl hs)
  fi := fun h1 h2 => cor_r (noSteps (by decide)) <| cor_r (noWord (by decide)) <| cor_r (noCol (by decide)) <| cor_r (noIfs (by decide)) <| cor_r (noDb (by decide)) <| cor_r (noD2i (by decide)) <| cor_l (sumFilled_at h1 h2)
  ks := fun h hl => cor_r (noSteps (by decide)) <| cor_r (noWord (by decide)) <| cor_r (noCol (by decide)) <| cor_r (noIfs (by decide)) <| cor_r (noDb (by decide)) <| cor_r (noD2i (by decide)) <| cor_r (noFilled (by decide)) <| cor_l (RKV_at h hl)
  vs := fun h hl => cor_r (noSteps (by decide)) <| cor_r (noWord (by decide)) <| cor_r (noCol (by decide)) <| cor_r (noIfs (by decide)) <| cor_r (noDb (by decide)) <| cor_r (noD2i (by decide)) <| cor_r (noFilled (by decide)) <| cor_r (noKV (by decide)) <| cor_l (RKV_at h hl)
  ga := fun h h2 h3 h4 h5 h6 => cor_r (noSteps (by decide)) <| cor_r (noWord (by decide)) <| cor_r (noCol (by decide)) <| cor_r (noIfs (by decide)) <| cor_r (noDb (by decide)) <| cor_r (noD2i (by decide)) <| cor_r (noFilled (by decide)) <| cor_r (noKV (by decide)) <| cor_r (noKV (by decide)) <| RGA_at h h2 h3 h4 h5 h6
  mK := mKeys P
  mV := mValues P
  mG := mGetAll P
def RLaw : AV → List AV → List (Str × AV) → St → AV × St → Prop := fun f args kw st r =>
  ∃ is : List Int, f = .old 309 ∧ args = [.ref 0] ∧ kw = [] ∧ st = [.rlist (is.map .int)] ∧ is.length ≤ 1000 ∧ LawOK (stepsF (smallF is) (cntF is)) (boundF (smallF is)) ∧ r = (.bool true, st)
theorem t_law (P : Params) (prog : Program) (w : World) (mg mb : Str → Option Value) : (sys1 P prog w mg mb).CC 13 (cRel RLaw) := by
  refine Sys.told (sys1 P prog w mg mb) (t_q1 P prog w mg mb) fun f args kw st r h hw => ?_
  obtain ⟨is, rfl, rfl, rfl, rfl, hl, hok, rfl⟩ := cRel_some h
  obtain ⟨g, hg⟩ := law_run (code := codeIn (hd.heap_39 P) 309) (lawQ1 P) hl hok
  exact ⟨_, _, (run_prep (prep_law P _ _ _ _ _ _ (.ref 0))).trans hg, trim0 hw rfl⟩
def px (q p : Nat × Nat) : Nat × Nat := (p.1 ^^^ q.1, p.2 ^^^ q.2)
theorem xor_c (a b c : Nat) : (a ^^^ c) ^^^ (b ^^^ c) = a ^^^ b := by
  rw [Nat.xor_comm b c, Nat.xor_assoc a c, ← Nat.xor_assoc c c b, Nat.xor_self, Nat.zero_xor]
theorem px_px (a b p : Nat × Nat) : px (px a b) p = px a (px b p) := by
  unfold px; simp [Nat.xor_assoc]
theorem px_comm (a b p : Nat × Nat) : px a (px b p) = px b (px a p) := by
  unfold px
  refine Prod.ext ?_ ?_
  · show (p.1 ^^^ b.1) ^^^ a.1 = (p.1 ^^^ a.1) ^^^ b.1
    rw [Nat.xor_assoc, Nat.xor_assoc, Nat.xor_comm b.1]
  · show (p.2 ^^^ b.2) ^^^ a.2 = (p.2 ^^^ a.2) ^^^ b.2
    rw [Nat.xor_assoc, Nat.xor_assoc, Nat.xor_comm b.2]
theorem px_inv (a p : Nat × Nat) : px a (px a p) = p := by
  unfold px; simp [Nat.xor_assoc]
def pinv (P : List (Nat × Nat)) : Prop := ∀ p ∈ P, (P.map (px p)).Perm P
theorem pinv_double {P : List (Nat × Nat)} (h : pinv P) (q : Nat × Nat) : pinv (P ++ P.map (px q)) := by
  intro p hp
  rw [List.map_append]
  rcases List.mem_append.mp hp with hp | hp
  · have e : (P.map (px q)).map (px p) = (P.map (px p)).map (px q) := by
      rw [List.map_map, List.map_map]
      exact List.map_congr_left fun x _ => px_comm p q x
    rw [e]
    exact (h p hp).append ((h p hp).map _)
  · obtain ⟨p0, hp0, rfl⟩ := List.mem_map.mp hp
    have e1 : P.map (px (px q p0)) = (P.map (px p0)).map (px q) := by
      rw [List.map_map]
      exact List.map_congr_left fun x _ => px_px q p0 x
    have e2 : (P.map (px q)).map (px (px q p0)) = P.map (px p0) := by
      rw [List.map_map]
      refine List.map_congr_left fun x _ => ?_
      show px (px q p0) (px q x) = px p0 x
      rw [px_px, px_comm p0 q x, px_inv]
    rw [e1, e2]
    exact (((h p0 hp0).map _).append (h p0 hp0)).trans List.perm_append_comm
def mexS (S : Nat → Prop) (c : Nat) : Prop := ¬ S c ∧ ∀ e, e < c → S e
theorem mexS_one {S : Nat → Prop} {c d : Nat} (h1 : mexS S c) (h2 : mexS S d) : c = d := by
  rcases Nat.lt_trichotomy c d with h | h | h
  · exact absurd (h2.2 c h) h1.1
  · exact h
  · exact absurd (h1.2 d h) h2.1
theorem mexS_of {l : List Nat} {n : Nat} (h : l.length ≤ n) : mexS (· ∈ l) (mexGo l n 0) := ⟨mex_not h, fun e he => mexGo_all n 0 e (Nat.zero_le _) he⟩
def SetOf (pr : Nat → Bool) (A : List (Nat × Nat)) (h : Nat) : Nat → Prop := fun e => ∃ q ∈ A, pr (q.1 ^^^ h) = true ∧ q.2 = e
def Gr (pr : Nat → Bool) : List (Nat × Nat) → List (Nat × Nat) → Prop
  | _, [] => True
  | A, p :: B => mexS (SetOf pr A p.1) p.2 ∧ Gr pr (A ++ [p]) B
theorem gr_app {pr : Nat → Bool} : ∀ {B A C : List (Nat × Nat)}, Gr pr A B → Gr pr (A ++ B) C → Gr pr A (B ++ C)
  | [], A, C, _, h => by simpa using h
  | p :: B, A, C, h1, h2 => ⟨h1.1, gr_app h1.2 (by simpa using h2)⟩
theorem nim : ∀ a b e : Fin 16, e.val < a.val ^^^ b.val → e.val ^^^ b.val < a.val ∨ e.val ^^^ a.val < b.val := by decide +kernel
theorem xor_cancel {a b c : Nat} (h : a ^^^ b = c) : a = c ^^^ b := by rw [← h, Nat.xor_assoc, Nat.xor_self, Nat.xor_zero]
theorem gr_double {pr : Nat → Bool} {P : List (Nat × Nat)} {s L : Nat} (hP : pinv P) (hlt : ∀ p ∈ P, p.2 < 16) (hL : L < 16) (hm : mexS (SetOf pr P s) L) : ∀ (R Q : List (Nat × Nat)), P = Q ++ R → Gr pr Q R → Gr pr (P ++ Q.map (px (s, L))) (R.map (px (s, L)))
  | [], _, _, _ => trivial
  | p :: R, Q, he, hg => by
    have hp : p ∈ P := by rw [he]; simp
    have hQ : ∀ q ∈ Q, q ∈ P := fun q hq => by rw [he]; exact List.mem_append_left _ hq
    refine ⟨⟨?_, ?_⟩, ?_⟩
    · rintro ⟨q, hq, h1, h2⟩
      have h2 : q.2 = p.2 ^^^ L := h2
      have h1 : pr (q.1 ^^^ (p.1 ^^^ s)) = true := h1
      rcases List.mem_append.mp hq with hq | hq
      · refine hm.1 ⟨px p q, (hP p hp).mem_iff.mp (List.mem_map_of_mem hq), ?_, ?_⟩
        · show pr ((q.1 ^^^ p.1) ^^^ s) = true
          rw [Nat.xor_assoc]; exact h1
        · show q.2 ^^^ p.2 = L
          rw [h2, Nat.xor_comm p.2 L, Nat.xor_assoc, Nat.xor_self, Nat.xor_zero]
      · obtain ⟨r, hr, rfl⟩ := List.mem_map.mp hq
        have h2 : r.2 ^^^ L = p.2 ^^^ L := h2
        have h1 : pr ((r.1 ^^^ s) ^^^ (p.1 ^^^ s)) = true := h1
        rw [xor_c] at h1
        refine hg.1.1 ⟨r, hr, h1, ?_⟩
        have := xor_cancel h2
        rw [Nat.xor_assoc, Nat.xor_self, Nat.xor_zero] at this
        exact this
    · intro e he2
      have he2 : e < p.2 ^^^ L := he2
      have hp16 := hlt p hp
      have e16 : e < 16 := Nat.lt_trans he2 (xor_lt16 hp16 hL)
      rcases nim ⟨p.2, hp16⟩ ⟨L, hL⟩ ⟨e, e16⟩ he2 with h | h
      · obtain ⟨q, hq, h1, h2⟩ := hg.1.2 _ h
        refine ⟨px (s, L) q, List.mem_append_right _ (List.mem_map_of_mem hq), ?_, ?_⟩
        · show pr ((q.1 ^^^ s) ^^^ (p.1 ^^^ s)) = true
          rw [xor_c]; exact h1
        · show q.2 ^^^ L = e
          exact (xor_cancel h2.symm).symm
      · obtain ⟨q, hq, h1, h2⟩ := hm.2 _ h
        refine ⟨px p q, List.mem_append_left _ ((hP p hp).mem_iff.mp (List.mem_map_of_mem hq)), ?_, ?_⟩
        · show pr ((q.1 ^^^ p.1) ^^^ (p.1 ^^^ s)) = true
          rw [Nat.xor_assoc, ← Nat.xor_assoc p.1 p.1 s, Nat.xor_self, Nat.zero_xor]; exact h1
        · show q.2 ^^^ p.2 = e
          exact (xor_cancel h2.symm).symm
    · have := gr_double hP hlt hL hm R (Q ++ [p]) (by rw [he]; simp) hg.2
      rw [List.map_append, ← List.append_assoc] at this
      exact this
theorem bar_mem {near : List Nat → Bool} {x : Nat} : ∀ (ws : List (List Nat)) (cs acc : List Nat), x ∈ barGo near ws cs acc ↔ x ∈ acc ∨ ∃ p ∈ ws.zip cs, near p.1 = true ∧ p.2 = x
  | [], cs, acc => by simp [barGo]
  | w :: ws, [], acc => by simp [barGo]
  | w :: ws, c :: cs, acc => by
    show x ∈ barGo near ws cs (if c ∉ acc ∧ near w = true then acc ++ [c] else acc) ↔ _
    rw [bar_mem ws cs, List.zip_cons_cons]
    simp only [List.mem_cons, exists_eq_or_imp]
    by_cases hn : near w = true
    · by_cases hc : c ∈ acc
      · rw [if_neg (fun h => h.1 hc)]
        constructor
        · rintro (h | h)
          · exact .inl h
          · exact .inr (.inr h)
        · rintro (h | ⟨_, h⟩ | h)
          · exact .inl h
          · exact .inl (h ▸ hc)
          · exact .inr h
      · rw [if_pos ⟨hc, hn⟩]
        constructor
        · rintro (h | h)
          · rcases List.mem_append.mp h with h | h
            · exact .inl h
            · exact .inr (.inl ⟨hn, (List.mem_singleton.mp h).symm⟩)
          · exact .inr (.inr h)
        · rintro (h | ⟨_, h⟩ | h)
          · exact .inl (List.mem_append_left _ h)
          · exact .inl (List.mem_append_right _ (by simp [h]))
          · exact .inr h
    · rw [if_neg (fun h => hn h.2)]
      constructor
      · rintro (h | h)
        · exact .inl h
        · exact .inr (.inr h)
      · rintro (h | ⟨h, _⟩ | h)
        · exact .inl h
        · exact absurd h hn
        · exact .inr h
theorem zip_maps {α β γ : Type} (f : α → β) (g : α → γ) : ∀ P : List α, (P.map f).zip (P.map g) = P.map fun p => (f p, g p)
  | [] => rfl
  | p :: P => by simp [zip_maps f g P]
theorem near_eq : ∀ (bd : Fin 4) (a b : Fin 16), decide (levP scF (wordL a.val) (wordL b.val) (bd.val : Int) ≤ (bd.val : Int)) = decide (priceF (a.val ^^^ b.val) ≤ bd.val) := by decide +kernel
def prB (bd : Nat) : Nat → Bool := fun d => decide (priceF d ≤ bd)
theorem col_gr {bd : Nat} (hb : bd < 4) : ∀ (B A : List (Nat × Nat)), (∀ p ∈ A ++ B, p.1 < 16) → Gr (prB bd) A B → colGo (bd : Int) (B.map fun p => wordL p.1) (A.map fun p => wordL p.1) (A.map (·.2)) = (A ++ B).map (·.2)
  | [], A, _, _ => by simp [colGo]
  | p :: B, A, h, hg => by
    have ih := col_gr hb B (A ++ [p]) (by simpa using h) hg.2
    have e : colOne (bd : Int) (A.map fun p => wordL p.1) (A.map (·.2)) (wordL p.1) = p.2 := by
      refine mexS_one (S := SetOf (prB bd) A p.1) ?_ hg.1
      have hm := mexS_of (l := barGo (nearF (bd : Int) (wordL p.1)) (A.map fun p => wordL p.1) (A.map (·.2)) []) (n := (A.map (·.2)).length) (by simpa using barGo_len _ _ (A.map (·.2)) [])
      have hh : (fun x => x ∈ barGo (nearF (bd : Int) (wordL p.1)) (A.map fun p => wordL p.1) (A.map (·.2)) []) = SetOf (prB bd) A p.1 := by
        funext x
        refine propext ?_
        rw [bar_mem, zip_maps]
        constructor
        · rintro (h | ⟨q, hq, h1, h2⟩)
          · cases h
          · obtain ⟨r, hr, rfl⟩ := List.mem_map.mp hq
            refine ⟨r, hr, ?_, h2⟩
            have := near_eq ⟨bd, hb⟩ ⟨r.1, h r (by simp [hr])⟩ ⟨p.1, h p (by simp)⟩
            exact this.symm.trans h1
        · rintro ⟨r, hr, h1, h2⟩
          refine .inr ⟨_, List.mem_map_of_mem hr, ?_, h2⟩
          have := near_eq ⟨bd, hb⟩ ⟨r.1, h r (by simp [hr])⟩ ⟨p.1, h p (by simp)⟩
          exact this.trans h1
      rw [← hh]
      exact hm
    show colGo (bd : Int) (B.map fun p => wordL p.1) (A.map (fun p => wordL p.1) ++ [wordL p.1]) (A.map (·.2) ++ [colOne (bd : Int) (A.map fun p => wordL p.1) (A.map (·.2)) (wordL p.1)]) = _
    rw [e]
    simpa using ih
theorem digN_valN : ∀ l : List Nat, (∀ x ∈ l, x < 16) → digN 16 l.length (valN 16 l) = l
  | [], _ => rfl
  | d :: l, h => by
    have hd := h d (by simp)
    show ((d + 16 * valN 16 l) % 16) :: digN 16 l.length ((d + 16 * valN 16 l) / 16) = _
    rw [show (d + 16 * valN 16 l) % 16 = d by omega, show (d + 16 * valN 16 l) / 16 = valN 16 l by omega, digN_valN l fun x hx => h x (by simp [hx])]
theorem xor_low {a b x y : Nat} (ha : a < 16) (hb : b < 16) : (a + 16 * x) ^^^ (b + 16 * y) = (a ^^^ b) + 16 * (x ^^^ y) := by
  have h1 : ((a + 16 * x) ^^^ (b + 16 * y)) % 2 ^ 4 = a ^^^ b := by
    rw [Nat.xor_mod_two_pow]
    rw [show (a + 16 * x) % 2 ^ 4 = a by omega, show (b + 16 * y) % 2 ^ 4 = b by omega]
  have h2 : ((a + 16 * x) ^^^ (b + 16 * y)) / 2 ^ 4 = x ^^^ y := by
    rw [Nat.xor_div_two_pow]
    rw [show (a + 16 * x) / 2 ^ 4 = x by omega, show (b + 16 * y) / 2 ^ 4 = y by omega]
  omega
def onesN : Nat → Nat
  | 0 => 0
  | n + 1 => 1 + 16 * onesN n
theorem onesN_eq : ∀ n, 16 ^ n = 15 * onesN n + 1
  | 0 => rfl
  | n + 1 => by rw [Nat.pow_succ, onesN_eq n]; show (15 * onesN n + 1) * 16 = 15 * (1 + 16 * onesN n) + 1; omega
theorem ones_div (n : Nat) : (16 ^ n - 1) / 15 = onesN n := by have := onesN_eq n; omega
theorem valN_xor {L : Nat} (hL : L < 16) : ∀ l : List Nat, (∀ x ∈ l, x < 16) → valN 16 (l.map (· ^^^ L)) = valN 16 l ^^^ L * onesN l.length
  | [], _ => by simp [valN, onesN]
  | d :: l, h => by
    show (d ^^^ L) + 16 * valN 16 (l.map (· ^^^ L)) = (d + 16 * valN 16 l) ^^^ L * (1 + 16 * onesN l.length)
    rw [valN_xor hL l fun x hx => h x (by simp [hx]), show L * (1 + 16 * onesN l.length) = L + 16 * (L * onesN l.length) by rw [Nat.mul_add, Nat.mul_one, Nat.mul_left_comm], xor_low (h d (by simp)) hL]
def heldsGo : List Nat → List Nat → List Nat
  | [], h => h
  | s :: ss, h => heldsGo ss (h ++ h.map (· ^^^ s))
structure PI (bd : Nat) (P : List (Nat × Nat)) : Prop where
  inv : pinv P
  gr : Gr (prB bd) [] P
  zero : (0, 0) ∈ P
  lt : ∀ p ∈ P, p.1 < 16 ∧ p.2 < 16
theorem getD_lt {l : List Nat} {j : Nat} (h : j < l.length) : l.getD j 0 = l[j] := by simp [List.getD_eq_getElem?_getD, h]
theorem near_mem {bd : Nat} {P : List (Nat × Nat)} {s x : Nat} : x ∈ nearL (bd : Int) (P.map (·.1)) (P.map (·.2)) s ↔ SetOf (prB bd) P s x := by
  unfold nearL SetOf
  rw [List.mem_filterMap]
  constructor
  · rintro ⟨j, hj, h⟩
    rw [List.mem_range, List.length_map] at hj
    split at h
    · rename_i hh
      injection h with h
      refine ⟨P[j], List.getElem_mem hj, ?_, ?_⟩
      · rw [getD_lt (by simpa using hj), List.getElem_map] at hh
        exact decide_eq_true (by omega)
      · rw [getD_lt (by simpa using hj), List.getElem_map] at h
        exact h
    · cases h
  · rintro ⟨q, hq, h1, h2⟩
    obtain ⟨j, hj, rfl⟩ := List.getElem_of_mem hq
    refine ⟨j, by rw [List.mem_range, List.length_map]; exact hj, ?_⟩
    rw [getD_lt (by simpa using hj), List.getElem_map, getD_lt (by simpa using hj), List.getElem_map]
    have := of_decide_eq_true h1
    rw [if_pos (by omega), h2]
theorem db_fin {bd : Nat} : ∀ (ss : List Nat) (P : List (Nat × Nat)), PI bd P → P.length * 2 ^ ss.length ≤ 16 → (∀ s ∈ ss, s < 16) → ∃ P', PI bd P' ∧ dbGo (bd : Int) ss (P.map (·.1)) (valN 16 (P.map (·.2))) = valN 16 (P'.map (·.2)) ∧ P'.map (·.1) = heldsGo ss (P.map (·.1))
  | [], P, h, _, _ => ⟨P, h, rfl, rfl⟩
  | s :: ss, P, h, hl, hs => by
    have hp : 0 < 2 ^ ss.length := Nat.pow_pos (by omega)
    have hl2 : (P.length + P.length) * 2 ^ ss.length ≤ 16 := by
      rw [List.length_cons, Nat.pow_succ] at hl
      have : (P.length + P.length) * 2 ^ ss.length = P.length * (2 ^ ss.length * 2) := by rw [← Nat.two_mul, Nat.mul_comm 2, Nat.mul_assoc, Nat.mul_comm 2]
      omega
    have hl8 : P.length ≤ 8 := by
      have : (P.length + P.length) * 1 ≤ (P.length + P.length) * 2 ^ ss.length := Nat.mul_le_mul_left _ hp
      omega
    have hs0 := hs s (by simp)
    have hc : ∀ x ∈ P.map (·.2), x < 16 := fun x hx => by
      obtain ⟨p, hp, rfl⟩ := List.mem_map.mp hx
      exact (h.lt p hp).2
    have ht : digN 16 (P.map (·.1)).length (valN 16 (P.map (·.2))) = P.map (·.2) := by
      have := digN_valN _ hc
      rw [List.length_map] at this ⊢
      exact this
    obtain ⟨L, hL⟩ : ∃ L, L = leastF (bd : Int) (P.map (·.1)) (valN 16 (P.map (·.2))) s := ⟨_, rfl⟩
    have hm : mexS (SetOf (prB bd) P s) L := by
      have := mexS_of (l := nearL (bd : Int) (P.map (·.1)) (P.map (·.2)) s) (n := (P.map (·.1)).length) (nearL_len _ _ _ _)
      have hh : (fun x => x ∈ nearL (bd : Int) (P.map (·.1)) (P.map (·.2)) s) = SetOf (prB bd) P s := funext fun x => propext near_mem
      rw [hL]
      unfold leastF
      rw [ht, ← hh]
      exact this
    have hL16 : L < 16 := by
      have : L ≤ 0 + (P.map (·.1)).length := by rw [hL]; exact mexGo_le _ _ _
      rw [List.length_map] at this
      omega
    obtain ⟨P', h1, h2, h3⟩ := db_fin ss (P ++ P.map (px (s, L))) {
      inv := pinv_double h.inv _
      gr := gr_app h.gr (by simpa using gr_double h.inv (fun p hp => (h.lt p hp).2) hL16 hm P [] rfl h.gr)
      zero := List.mem_append_left _ h.zero
      lt := fun p hp => by
        rcases List.mem_append.mp hp with hp | hp
        · exact h.lt p hp
        · obtain ⟨q, hq, rfl⟩ := List.mem_map.mp hp
          exact ⟨xor_lt16 (h.lt q hq).1 hs0, xor_lt16 (h.lt q hq).2 hL16⟩ } (by simpa using hl2) (fun x hx => hs x (by simp [hx]))
    have e1 : (P ++ P.map (px (s, L))).map (·.1) = P.map (·.1) ++ (P.map (·.1)).map (· ^^^ s) := by
      rw [List.map_append, List.map_map, List.map_map]; rfl
    have e2 : (P ++ P.map (px (s, L))).map (·.2) = P.map (·.2) ++ (P.map (·.2)).map (· ^^^ L) := by
      rw [List.map_append, List.map_map, List.map_map]; rfl
    refine ⟨P', h1, ?_, ?_⟩
    · rw [← h2, e1, e2]
      show dbGo (bd : Int) ss (P.map (·.1) ++ (P.map (·.1)).map (· ^^^ s)) (numF (bd : Int) (P.map (·.1)) (valN 16 (P.map (·.2))) s) = _
      refine congrArg _ ?_
      unfold numF
      rw [← hL, valN_app, valN_xor hL16 _ hc, ones_div, List.length_map, List.length_map, show 2 ^ (4 * P.length) = 16 ^ P.length by rw [Nat.pow_mul], Nat.mul_comm (16 ^ _)]
    · rw [h3, e1]; rfl
theorem words_held : ∀ ss : List Nat, ss.length = 3 ∨ ss.length = 4 → wordsF ss = (heldsGo ss [0]).map wordL
  | [a, b, c], _ => by kernel_rfl
  | [a, b, c, d], _ => by kernel_rfl
  | [], h => by simp at h
  | [_], h => by simp at h
  | [_, _], h => by simp at h
  | _ :: _ :: _ :: _ :: _ :: _, h => by simp at h
def kb (d : Nat) : Bool := d &&& 10 == 0
theorem low_eq : ∀ a b : Fin 16, decide (Txt.lower (sx (wordL a.val)) = Txt.lower (Txt.swapcase (sx (wordL b.val)))) = kb (a.val ^^^ b.val) := by decide +kernel
theorem low_eq0 : ∀ a : Fin 16, decide (Txt.lower (sx (wordL a.val)) = Txt.lower ("AC" : Str)) = kb a.val := by decide +kernel
theorem sortI_perm {a b : List Int} (p : a.Perm b) : sortI a = sortI b := by
  refine sort_unique ((List.mergeSort_perm a _).trans p) ?_
  have := List.pairwise_mergeSort (le := fun a b : Int => decide (a ≤ b)) (fun a b c h1 h2 => by simp at h1 h2 ⊢; omega) (fun a b => by simp; omega) a
  exact this.imp fun h => of_decide_eq_true h
theorem twin_eq {P : List (Nat × Nat)} (hlt : ∀ p ∈ P, p.1 < 16) {ln : Str} {f : Nat → Bool} (hf : ∀ a : Fin 16, decide (Txt.lower (sx (wordL a.val)) = ln) = f a.val) : twinL (P.map fun p => wordL p.1) (P.map (·.2)) ln = (P.filter fun p => f p.1).map (·.2) := by
  unfold twinL
  rw [zip_maps, List.filter_map, List.map_map]
  refine congrArg _ (List.filter_congr fun p hp => ?_)
  exact hf ⟨p.1, hlt p hp⟩
theorem law_ok {ss : List Nat} {bd : Nat} (h : ss.length = 3 ∨ ss.length = 4) (hs : ∀ s ∈ ss, s < 16) (hb : bd < 4) : LawOK ss bd := by
  obtain ⟨P, hP, h1, h2⟩ := db_fin (bd := bd) ss [(0, 0)] {
    inv := fun p hp => by rw [List.mem_singleton.mp hp]; exact List.Perm.refl _
    gr := ⟨⟨fun ⟨q, hq, _⟩ => (by cases hq), fun e he => absurd he (Nat.not_lt_zero _)⟩, trivial⟩
    zero := by simp
    lt := fun p hp => by rw [List.mem_singleton.mp hp]; decide } (by rcases h with h | h <;> rw [h] <;> decide) hs
  have hlt : ∀ p ∈ P, p.1 < 16 := fun p hp => (hP.lt p hp).1
  have hw : wordsF ss = P.map fun p => wordL p.1 := by
    rw [words_held ss h, show (heldsGo ss [0]) = P.map (·.1) from h2.symm, List.map_map]; rfl
  have hc : colF (bd : Int) (wordsF ss) = P.map (·.2) := by
    rw [hw]; exact col_gr hb P [] (by simpa using hlt) hP.gr
  have hv : valN 16 (P.map (·.2)) = dbF (bd : Int) ss := h1.symm
  have hc16 : ∀ x ∈ P.map (·.2), x < 16 := fun x hx => by
    obtain ⟨p, hp, rfl⟩ := List.mem_map.mp hx
    exact (hP.lt p hp).2
  refine ⟨by rw [hc, hv], ?_, ?_⟩
  · have := digN_valN _ hc16
    rw [hc, ← hv, hw]
    rw [List.length_map] at this ⊢
    exact this
  · intro k w hk
    rw [hw, List.getElem?_map] at hk
    obtain ⟨p, hp, rfl⟩ : ∃ p, P[k]? = some p ∧ wordL p.1 = w := by
      cases e : P[k]? with
      | none => rw [e] at hk; cases hk
      | some p => rw [e] at hk; exact ⟨p, rfl, by injection hk⟩
    have hpm : p ∈ P := List.mem_of_getElem? hp
    have hg : (P.map (·.2)).getD k 0 = p.2 := by rw [List.getD_eq_getElem?_getD, List.getElem?_map, hp]; rfl
    rw [hc, hw, hg]
    unfold kinF
    refine sortI_perm (List.Perm.map _ ?_)
    rw [twin_eq hlt (f := fun d => kb (d ^^^ p.1)) (fun a => low_eq a ⟨p.1, hlt p hpm⟩), twin_eq hlt low_eq0, List.map_map, List.map_map]
    have e1 : (P.filter fun q => kb (q.1 ^^^ p.1)).map ((· ^^^ p.2) ∘ (·.2)) = ((P.map (px p)).filter fun q => kb q.1).map (·.2) := by
      rw [List.filter_map, List.map_map]; rfl
    have e2 : (P.filter fun q => kb q.1).map ((· ^^^ 0) ∘ (·.2)) = (P.filter fun q => kb q.1).map (·.2) := List.map_congr_left fun q _ => Nat.xor_zero _
    rw [e1, e2]
    exact ((hP.inv p hpm).filter _).map _
theorem law_plain (is : List Int) : LawOK (stepsF (smallF is) (cntF is)) (boundF (smallF is)) := by
  have hc : cntF is = 3 ∨ cntF is = 4 := by unfold cntF; split <;> simp
  refine law_ok (by rw [stepsF_len (by omega)]; exact hc) (stepsF_lt fun x hx => ?_) (by unfold boundF; omega)
  unfold smallF at hx
  obtain ⟨i, _, rfl⟩ := List.mem_map.mp hx
  omega
def avOk : AV → Value → Bool
  | .int i, .int j _ => i == j
  | .typ n, .type m => n == m
  | .blt n, .builtin m => n == m
  | .old a, .ref b => a == b
  | _, _ => false
theorem avOk_vr {a : AV} {v : Value} (h : avOk a v = true) : VR [] a v := by
  unfold avOk at h
  split at h
  · exact ⟨_, by rw [eq_of_beq h]⟩
  · exact congrArg _ (eq_of_beq h).symm
  · exact congrArg _ (eq_of_beq h).symm
  · exact congrArg _ (eq_of_beq h).symm
  · cases h
def namesIn (K : Frag) (G : List (Str × AV)) : Bool := G.all fun p => p.1 != "__name__" && match nsIn K mainGlobals p.1 with
  | some (some v) => avOk p.2 v
  | some none => (match bootBuiltins p.1 with
    | some v => avOk p.2 v
    | none => false)
  | none => false
theorem mem_of_lookS {β : Type} : ∀ {G : List (Str × β)} {x : Str} {v : β}, G.lookup x = some v → (x, v) ∈ G
  | [], _, _, e => by cases e
  | (y, u) :: r, x, v, e => by
    rw [List.lookup_cons] at e
    cases hb : x == y with
    | true => rw [hb] at e; cases e; rw [eq_of_beq hb]; exact .head _
    | false => rw [hb] at e; exact .tail _ (mem_of_lookS e)
theorem names_ok {K : Frag} {G : List (Str × AV)} {mg mb : Str → Option Value} {h : Heap} (X : K.In h) (g : h.Ns mainGlobals mg) (hb : ∀ x : Str, x ≠ "__name__" → mb x = bootBuiltins x) (e : namesIn K G = true) :
    ∀ x v, G.lookup x = some v → ∃ v', VR [] v v' ∧ (mg x = some v' ∨ (mg x = .none ∧ mb x = some v')) := by
  intro x v hx
  have h1 := List.all_eq_true.mp e _ (mem_of_lookS hx)
  obtain ⟨h1, h2⟩ := Bool.and_eq_true_iff.mp h1
  have hn : x ≠ "__name__" := by simpa using h1
  split at h2
  · rename_i u hu
    exact ⟨u, avOk_vr h2, .inl (mg_of X g hu)⟩
  · rename_i hu
    split at h2
    · rename_i u hv
      exact ⟨u, avOk_vr h2, .inr ⟨ns_none_of X g hu, (hb x hn).trans hv⟩⟩
    · cases h2
  · cases h2
theorem room13 : Room callerA 13 := ⟨rfl, by decide, by decide⟩
theorem law_start {h : Heap} {s : Shared} {tabs : List (Addr × Addr)} {tb : List TabD} {x : Addr} {vals : List Value} {ns : List Int} (hs : s.heap = h) (hT : TabsAt tabs h) (hL : h.IsList x vals.toArray) (hI : IntsAre vals ns) (hg : s.gens = #[])
    (htb : ∀ t ∈ tb, t.P ∈ tabs.map (·.2)) : SR ⟨ghostOf h tabs, [], s.os, tb⟩ [x] [.rlist (ns.map .int)] s where
  keep := fun a o hk => by
    rcases hk with hk | hk
    · rw [hs]; exact of_hideAll _ hk
    · cases hk
  len := rfl
  nd := by simp
  apart := fun k a ao h1 h2 h3 => by
    rcases k with _ | k
    · cases h2; cases h3
    · cases h2
  obj := fun k a ao h1 h2 => by
    rcases k with _ | k
    · cases h1; cases h2
      obtain ⟨o, e, hc, n, hd⟩ := hL
      exact ⟨o, by rw [hs]; exact e, vals, n, hc, hd, all2_ints hI⟩
    · cases h2
  gens := hg
  os := rfl
  eds := fun k a h1 h2 => by
    rcases k with _ | k <;> cases h2
  tab := fun t ht => by
    have hP : h.get? t.P = some (tabObj #[]) := by
      obtain ⟨q, hq, e⟩ := List.mem_map.mp (htb t ht)
      rw [← e]; exact (hT q hq).2
    rw [hs]
    refine ⟨fun b r => ?_, .inl hP⟩
    have hb : b = t.P := by
      rcases r with r | r
      · exact r
      · rw [hP] at r
        have := congrArg (fun o : Option Obj => match o with | some ⟨_, _, .fields vs, _⟩ => vs.size | _ => 0) r
        simp at this
    subst hb
    refine ⟨fun hm => ?_, fun o hk => ?_⟩
    · rw [List.mem_singleton] at hm
      obtain ⟨o, e, hc, _⟩ := hL
      rw [← hm, hP] at e
      cases e
      cases hc
    · rcases hk with hk | hk
      · rw [show (ghostOf h tabs).get? t.P = none from hideAll_none _ (htb t ht)] at hk
        cases hk
      · cases hk
  fns := fun k a ps body scope q cl P h1 h2 => by
    rcases k with _ | k <;> cases h2
theorem grown_of {B : Base} {ρ : List Addr} {h : Heap} (ht : ∀ t ∈ B.tabs, TabOk B ρ h t) : ∀ {tabs : List (Addr × Addr)}, (∀ q ∈ tabs, ∃ t ∈ B.tabs, t.P = q.2) → GrownAll tabs h
  | [], _ => trivial
  | q :: r, hq => by
    refine ⟨?_, grown_of ht fun p hp => hq p (.tail _ hp)⟩
    obtain ⟨t, h1, h2⟩ := hq q (.head _)
    rw [← h2]
    rcases (ht t h1).st with e | ⟨c, e, _⟩
    · exact ⟨_, e⟩
    · exact ⟨_, e⟩
theorem RLaw_at {is : List Int} (h : is.length ≤ 1000) : cRel RLaw (.old 309) [.ref 0] [] [.rlist (is.map .int)] = some (.bool true, [.rlist (is.map .int)]) :=
  cRel_of ⟨is, rfl, rfl, rfl, rfl, h, law_plain is, rfl⟩ fun r' ⟨_, _, _, _, _, _, _, e⟩ => e
theorem names1 (P : Params) : namesIn (hd.heap_39 P) G1 = true := by kernel_rfl
theorem noTabs1 (P : Params) : noTabs (hd.heap_39 P) = true := by kernel_rfl
theorem top1 : PySem.Challenge.rw_pe0291_01.Holds := by
  refine hd ?_
  intro w s₀ s₁ mg mb G Y fa o pm cd doc dV kV ho hd' hcd hD hmg hg args vals as hpre hlay hrd hwl hlo
  have KX := km_in_of Y
  have hT8 := km_tabs_of Y
  have hT9 : TabsAt [(80, 76), (87, 83), (52, 48)] s₁.heap := List.forall_mem_cons.mpr ⟨⟨codeHd_of_K KX (by kernel_rfl), hT8 76 (by decide)⟩, List.forall_mem_cons.mpr ⟨⟨codeHd_of_K KX (by kernel_rfl), hT8 83 (by decide)⟩, List.forall_mem_cons.mpr ⟨⟨codeHd_of_K KX (by kernel_rfl), hT8 48 (by decide)⟩, fun _ h => nomatch h⟩⟩⟩
  refine Ground.open G ?_
  intro T B D TE TW
  clear TE TW D
  wrow_args hpre hlay hrd hwl hlo
  refine enter_call ?_
  refine kn_post hT9 (fun _ _ => rfl) ?_
  have hfa : fa = 309 := by
    have e1 : mg "law" = some (.ref 309) := mg_of KX T.g (by kernel_rfl)
    have e2 := e1.symm.trans hmg
    cases e2
    rfl
  subst hfa
  have T' := ghost_top hT9 T
  have hB : GoodB G1 mg mb (X1 w.params mg) ⟨ghostOf s₁.heap [(80, 76), (87, 83), (52, 48)], [], s₁.os, tabs1⟩ := {
    g := T'.g
    b := T'.b
    nolimit := T'.nolimit
    nodigits := T'.nodigits
    names := names_ok KX T.g T.builtins (names1 w.params)
    x := ⟨ghost_K hT9 KX (noTabs1 w.params), T'.bmain, rfl⟩ }
  rename_i hL _ _ _ hI _ hlen _
  refine codeAny_mono (t_law w.params _ w mg mb _ _ _ _ _ _ hB (RLaw_at (by omega)) [_] _ _ _ _ _ room13 rfl (.cons ⟨_, rfl, rfl⟩ .nil) .nil (law_start rfl hT9 hL hI hg (by decide))).2 fun r s' hr => ?_
  rcases r with e | f
  · exact absurd hr id
  cases f with
  | ret v =>
    obtain ⟨ρ', _, S, hv⟩ := hr
    have hv : v = .bool true := hv
    subst hv
    exact ⟨⟨.inl ⟨_, .bool true, [], rfl, fun _ => rfl, .bool true, by wrow_post, fun _ => ⟨by simp, fun _ h => nomatch h⟩⟩, fun b o e => S.keep b o (.inl e), S.os, S.gens⟩, grown_of S.tab (by show ∀ q ∈ [(80, 76), (87, 83), (52, 48)], ∃ t ∈ tabs1, t.P = q.2; decide)⟩
  | _ => exact absurd hr id
end Mine
theorem PySem.Challenge.cw_pe0291_01_holds : PySem.Challenge.rw_pe0291_01.Holds :=
  Mine.top1
