import PyProof.Rows.All
import Wide.All
import OpenK.AllK
import Wide.FinOn
import PySem.Challenge.RW_fq5041_01
open PySem PySem.W PyProof.Rows
set_option Elab.async false
set_option maxRecDepth 100000

namespace Mine
/-- what a thing of the law holds -/
inductive Cont where
  | str (x : Str)
  | tup (xs : List Str)
  | lst (xs : List Str)
  deriving DecidableEq

namespace Cont
def data : Cont → PyData
  | .str x => .str x
  | .tup xs => .tuple (xs.map .str)
  | .lst xs => .list (xs.map .str)
def len : Cont → Nat
  | .str x => x.length
  | .tup xs => xs.length
  | .lst xs => xs.length
def hashable : Cont → Bool
  | .lst _ => false
  | _ => true
/-- sizes and signs as the model wants them -/
def ok : Cont → Bool
  | .str x => PyData.strOk x && decide (x.length ≤ 1000)
  | .tup xs => xs.all PyData.strOk && decide (xs.length ≤ 1000)
  | .lst xs => xs.all PyData.strOk && decide (xs.length ≤ 1000)
end Cont

theorem eqvAll_strs : ∀ xs ys : List Str, PyData.eqvAll (xs.map PyData.str) (ys.map PyData.str) = decide (xs = ys)
  | [], [] => by simp [PyData.eqvAll]
  | [], _ :: _ => by simp [PyData.eqvAll]
  | _ :: _, [] => by simp [PyData.eqvAll]
  | a :: r, b :: t => by
    simp only [List.map_cons, PyData.eqvAll, PyData.eqv, eqvAll_strs r t]
    by_cases h : a = b <;> by_cases h' : r = t <;> simp [h, h']

theorem eqv_data (c e : Cont) : PyData.eqv c.data e.data = decide (c = e) := by
  cases c <;> cases e <;> simp [Cont.data, PyData.eqv, eqvAll_strs]
  rename_i x y
  by_cases h : x = y <;> simp [h]

theorem canLayAll_strs : ∀ xs : List Str, xs.all PyData.strOk = true → PyData.canLayAll0 (xs.map PyData.str) = true
  | [], _ => rfl
  | x :: r, h => by
    simp only [List.all_cons, Bool.and_eq_true] at h
    simp only [List.map_cons, PyData.canLayAll0, PyData.canLay0, h.1, canLayAll_strs r h.2, Bool.and_self]
theorem depthAll_strs : ∀ xs : List Str, PyData.depthAll (xs.map PyData.str) = 0
  | [] => rfl
  | x :: r => by simp [PyData.depthAll, PyData.depth, depthAll_strs r]

theorem canLay_data {c : Cont} (h : c.ok = true) : c.data.canLay0 = true := by
  cases c <;> simp only [Cont.ok, Bool.and_eq_true] at h
  · exact h.1
  · exact canLayAll_strs _ h.1
  · exact canLayAll_strs _ h.1
theorem depth_data (c : Cont) : c.data.depth ≤ 1 := by
  cases c <;> simp [Cont.data, PyData.depth, depthAll_strs]

section
variable (prog : Program) (w : World)

/-- a value that holds c at the heap h -/
inductive PV (h : Heap) : Value → Cont → Prop
  | str (x : Str) (t : Tok) (ht : t ≠ 0) : PV h (.str x t) (.str x)
  | tup {a : Addr} {o : Obj} {its : Array Value} {n : Nat} {xs : List Str} : h.get? a = some o → o.cls = .type "tuple" → o.data = .seq its n → ItemsAre (strKind prog w) xs its.toList → PV h (.ref a) (.tup xs)
  | lst {a : Addr} {o : Obj} {its : Array Value} {n : Nat} {xs : List Str} : h.get? a = some o → o.cls = .type "list" → o.data = .seq its n → ItemsAre (strKind prog w) xs its.toList → PV h (.ref a) (.lst xs)
end

section
variable {prog : Program} {w : World} {h h' : Heap} {v u : Value} {c e : Cont}

theorem PV.keeps (k : ∀ b o, h.get? b = some o → h'.get? b = some o) (x : PV prog w h v c) : PV prog w h' v c := by
  cases x with
  | str x t ht => exact .str x t ht
  | tup a b c d => exact .tup (k _ _ a) b c d
  | lst a b c d => exact .lst (k _ _ a) b c d

/-- the objects of the value stand at another heap too (but for one that is none of them) -/
theorem PV.but {a : Addr} (x : PV prog w h v c) (ho : ∀ o, h.get? a = some o → o.cls ≠ .type "tuple" ∧ o.cls ≠ .type "list") (k : ∀ b o, b ≠ a → h.get? b = some o → h'.get? b = some o) : PV prog w h' v c := by
  cases x with
  | str x t ht => exact .str x t ht
  | tup p q r s => exact .tup (k _ _ (fun e => by subst e; exact (ho _ p).1 q) p) q r s
  | lst p q r s => exact .lst (k _ _ (fun e => by subst e; exact (ho _ p).2 q) p) q r s

theorem readsAll_strs : ∀ {xs : List Str} {vs : List Value}, ItemsAre (strKind prog w) xs vs → ∃ as, ReadsAll h vs (xs.map PyData.str) as
  | [], _, .nil => ⟨_, .nil⟩
  | x :: _, _, .cons hk hr => by
    obtain ⟨as, ih⟩ := readsAll_strs hr
    obtain ⟨t, rfl⟩ := Value.isStrOf_shape hk
    exact ⟨_, .cons (.str _ _) ih⟩

theorem PV.reads (x : PV prog w h v c) : ∃ as, Reads h v c.data as := by
  cases x with
  | str x t => exact ⟨_, .str x t⟩
  | tup a b c d => obtain ⟨as, r⟩ := readsAll_strs (h := h) d; exact ⟨_, .tuple a b c r⟩
  | lst a b c d => obtain ⟨as, r⟩ := readsAll_strs (h := h) d; exact ⟨_, .list a b c r⟩

end

section
variable {prog : Program} {w : World} {A : Around} {E : Value → Shared → Prop} {s : Shared} {v u : Value} {c e : Cont}

theorem room_data (hu : A.units + 8 < cLine) : A.units + min c.data.depth e.data.depth < cLine := by
  have := depth_data c; have := depth_data e; omega

theorem pv_eq {Q : Value → Shared → Prop} (hv : PV prog w s.heap v c) (hu' : PV prog w s.heap u e) (hc : c.ok = true) (he : e.ok = true) (hu : A.units + 8 < cLine) (h : Q (.bool (decide (c = e))) s) :
    wpAny (model prog w) A (richCompare .Eq v u) Q E s := by
  obtain ⟨as, ra⟩ := hv.reads
  obtain ⟨bs, rb⟩ := hu'.reads
  exact PySem.SeqAt.compareEq_reads ra rb (canLay_data hc) (canLay_data he) (room_data hu) (by rw [eqv_data]; exact h)
theorem pv_ne {Q : Value → Shared → Prop} (hv : PV prog w s.heap v c) (hu' : PV prog w s.heap u e) (hc : c.ok = true) (he : e.ok = true) (hu : A.units + 8 < cLine) (h : Q (.bool (!decide (c = e))) s) :
    wpAny (model prog w) A (richCompare .NotEq v u) Q E s := by
  obtain ⟨as, ra⟩ := hv.reads
  obtain ⟨bs, rb⟩ := hu'.reads
  exact PySem.SeqAt.compareNe_reads ra rb (canLay_data hc) (canLay_data he) (room_data hu) (by rw [eqv_data]; exact h)
theorem pv_eqBool {Q : Bool → Shared → Prop} (hv : PV prog w s.heap v c) (hu' : PV prog w s.heap u e) (hc : c.ok = true) (he : e.ok = true) (hu : A.units + 8 < cLine) (h : Q (decide (c = e)) s) :
    wpAny (model prog w) A (eqBool v u) Q E s := by
  obtain ⟨as, ra⟩ := hv.reads
  obtain ⟨bs, rb⟩ := hu'.reads
  exact PySem.SeqAt.eqBoolOverData prog w A E s v u _ _ as bs Q ra rb (canLay_data hc) (canLay_data he) (room_data hu) (by rw [eqv_data]; exact h)

theorem pv_len {Q : Value → Shared → Prop} (hv : PV prog w s.heap v c) (hc : c.ok = true) (h : ∀ t k, Q (.int c.len t) { s with toks := k }) :
    wpAny (model prog w) A (call (.builtin "len") [v]) Q E s := by
  cases hv with
  | str x t =>
    simp only [Cont.ok, Bool.and_eq_true, decide_eq_true_eq] at hc
    exact call_len_gives (T := "str") rfl F.slot_str_len F.entry_str_len (F.args_str_len_1 _) (gives_str_len x t) (by omega) (by omega) (h _ _)
  | tup a b d i =>
    simp only [Cont.ok, Bool.and_eq_true, decide_eq_true_eq] at hc
    rename_i ad o its n xs
    have hl : xs.length = its.size := by rw [i.length]; simp
    have := h (s.toks + 1) (s.toks + 1 + 1)
    simp only [Cont.len, hl] at this
    exact PyProof.Rows.len_tuple (items := its) ⟨_, a, b, _, d⟩ (by omega) this
  | lst a b d i =>
    simp only [Cont.ok, Bool.and_eq_true, decide_eq_true_eq] at hc
    rename_i ad o its n xs
    have hl : xs.length = its.size := by rw [i.length]; simp
    have := h (s.toks + 1) (s.toks + 1 + 1)
    simp only [Cont.len, hl] at this
    exact Calls.call_len_list (items := its) ⟨_, a, b, _, d⟩ (by omega) this

theorem notEmpty {xs : List Str} {its : Array Value} (hl : xs.length = its.size) : decide (xs.length ≠ 0) = !its.isEmpty := by
  unfold Array.isEmpty
  rw [hl]
  by_cases q : its.size = 0 <;> simp [q]
theorem pv_truthy {Q : Bool → Shared → Prop} (hv : PV prog w s.heap v c) (hc : c.ok = true) (h : ∀ k, Q (decide (c.len ≠ 0)) { s with toks := k }) :
    wpAny (model prog w) A (truthy v) Q E s := by
  cases hv with
  | str x t =>
    simp only [Cont.ok, Bool.and_eq_true, decide_eq_true_eq] at hc
    have e : ((x.length : Int) != 0) = decide ((Cont.str x).len ≠ 0) := by
      simp only [Cont.len]
      by_cases q : x.length = 0
      · simp [q]
      · have : (x.length : Int) ≠ 0 := by omega
        simp [q, this]
    exact P.truthy_str (by omega) (by rw [e]; exact h _)
  | tup a b d i =>
    simp only [Cont.ok, Bool.and_eq_true, decide_eq_true_eq] at hc
    rename_i ad o its n xs
    have hl : xs.length = its.size := by rw [i.length]; simp
    have := h (s.toks + 1 + 1)
    rw [show decide ((Cont.tup xs).len ≠ 0) = !its.isEmpty from notEmpty hl] at this
    exact truthy_tuple (items := its) ⟨_, a, b, _, d⟩ (by omega) this
  | lst a b d i =>
    simp only [Cont.ok, Bool.and_eq_true, decide_eq_true_eq] at hc
    rename_i ad o its n xs
    have hl : xs.length = its.size := by rw [i.length]; simp
    have := h (s.toks + 1 + 1)
    rw [show decide ((Cont.lst xs).len ≠ 0) = !its.isEmpty from notEmpty hl] at this
    exact wpAny_truthy_list (items := its) ⟨_, a, b, _, d⟩ (by omega) this
end
end Mine

namespace Mine
def Cont.hash (prog : Program) (w : World) : Cont → Int
  | .str x => hashStr w x
  | .tup xs => tupleKeyHash (strKind prog w) xs
  | .lst _ => 0

theorem lookup_list_hash : typeLookup (.type "list") "__hash__" = pure (some .none) := by rw [typeLookup_type, builtinLookup_eq_fast]; kernel_rfl

section
variable {prog : Program} {w : World} {A : Around} {E : Value → Shared → Prop} {s : Shared} {v u : Value} {c e : Cont}

theorem PV.tupleKey {a : Addr} {xs : List Str} (h : PV prog w s.heap (.ref a) (.tup xs)) : IsTupleKey (strKind prog w) s.heap xs a := by
  cases h with | tup p q r i => exact ⟨_, _, _, p, q, r, i⟩

theorem pv_hash {Q : Int → Shared → Prop} (hu : A.units < cLine) (hv : PV prog w s.heap v c) (hc : c.hashable = true) (h : ∀ k, Q (c.hash prog w) { s with toks := k }) :
    wpAny (model prog w) A (pyHash v) Q E s := by
  cases hv with
  | str x t => exact wpAny_pyHash_str (h _)
  | tup p q r i => exact wpAny_pyHash_tuple (knd := strKind prog w) hu ⟨_, _, _, p, q, r, i⟩ (h _)
  | lst => simp [Cont.hashable] at hc

theorem pv_unhash {Q : Int → Shared → Prop} (hu : A.units < cLine) (hh : A.handled = none) (hv : PV prog w s.heap v c) (hc : c.hashable = false)
    (h : ∀ h' tk e, Heap.NewExc s.heap h' e "TypeError" → E (.ref e) { s with heap := h', toks := tk }) :
    wpAny (model prog w) A (pyHash v) Q E s := by
  cases hv with
  | str x t => simp [Cont.hashable] at hc
  | tup p q r i => simp [Cont.hashable] at hc
  | lst p q r i =>
    rename_i a o its n xs
    have hT : s.TypeIs (.ref a) "list" := ⟨_, p, q⟩
    unfold pyHash pyHashByItsType
    refine wpAny_bind (wpAny_cRoomFor_or (.inr hu) ?_)
    refine wpAny_bind (wpAny_specialOf hT lookup_list_hash ?_)
    show wpAny _ _ (if (some Value.none == some Value.none) = true then _ else _) Q E s
    rw [if_pos (by decide)]
    refine wpAny_bind (wpAny_rule ?_)
    have en : typeName (.type "list") = pure "list" := by unfold typeName; rw [find?_eq_fast]; kernel_rfl
    refine wpAny_bind ?_
    unfold PySem.typeNameOf shownTypeOf
    refine wpAny_bind (wpAny_bind (wpAny_typeOf hT ?_))
    simp only [show (Value.type "list" == Value.type "builtin_function_or_method") = false by decide, Bool.false_eq_true, if_false]
    refine wpAny_pure (wpAny_of_eq en ?_)
    refine wpAny_bind ?_
    exact_raiseError plainExc_TypeError hh h

theorem pv_quiet {Q : Bool → Shared → Prop} (hv : PV prog w s.heap v c) (hc : c.hashable = true) (h : Q true s) : wpAny (model prog w) A (eqIsQuiet 8 v) Q E s := by
  cases hv with
  | str x t => exact wpAny_of_eq (eqIsQuiet_byValue 8 rfl) h
  | tup p q r i => exact wpAny_eqIsQuiet_tuple (knd := strKind prog w) ⟨_, _, _, p, q, r, i⟩ h
  | lst => simp [Cont.hashable] at hc

theorem ofAClass_str (n : Nat) (x : Str) (t : Tok) : ofAClassStatement n (.str x t) = pure false := by cases n <;> rfl

theorem pv_noClass {Q : Bool → Shared → Prop} (hv : PV prog w s.heap v c) (hc : c.hashable = true) (h : Q false s) : wpAny (model prog w) A (ofAClassStatement 8 v) Q E s := by
  cases hv with
  | str x t => exact wpAny_of_eq (ofAClass_str 8 x t) h
  | tup p q r i =>
    rename_i a o its n xs
    have hT : s.TypeIs (.ref a) "tuple" := ⟨_, p, q⟩
    unfold ofAClassStatement
    refine wpAny_bind (wpAny_typeOf hT ?_)
    dsimp only
    rw [if_pos (by decide)]
    refine wpAny_bind (wpAny_pure ?_)
    simp only [Bool.not_true, Bool.false_eq_true, if_false]
    refine wpAny_bind (wpAny_seqItems p r ?_)
    dsimp only
    refine wpAny_bind ?_
    show wpAny _ _ (forIn its _ _) _ _ s
    rw [← Array.forIn_toList]
    refine wpAny_forIn_list _ (fun rest b s' => b.1 = none ∧ s' = s ∧ ∃ ys, ItemsAre (strKind prog w) ys rest) _ ?_ ?_ _ _ ⟨rfl, rfl, _, i⟩
    · rintro y rest b s' ⟨hb, rfl, ys, hi⟩
      cases hi with
      | @cons k _ ys' _ h1 h2 =>
        obtain ⟨t, rfl⟩ := Value.isStrOf_shape h1
        refine wpAny_bind (wpAny_of_eq (ofAClass_str _ _ _) ?_)
        simp only [Bool.false_eq_true, if_false]
        exact wpAny_pure ⟨rfl, rfl, _, h2⟩
    · rintro ⟨b1, b2⟩ s' ⟨hb, rfl, _⟩
      simp only at hb
      subst hb
      exact wpAny_pure h
  | lst => simp [Cont.hashable] at hc

theorem ite_both {α : Type} {M : Model} {c : Prop} [Decidable c] {a b : Sem α} {Q : α → Shared → Prop} (ha : wpAny M A a Q E s) (hb : wpAny M A b Q E s) : wpAny M A (if c then a else b) Q E s := by
  split <;> assumption

theorem pv_unseen {Q : Bool → Shared → Prop} {ys : List Value} (hv : PV prog w s.heap v c) (hc : c.hashable = true) (hys : ∀ y ∈ ys, ∃ e, PV prog w s.heap y e ∧ e.hashable = true) (h : Q false s) :
    wpAny (model prog w) A (searchCouldBeSeen v ys) Q E s := by
  unfold searchCouldBeSeen
  refine wpAny_bind ?_
  refine wpAny_forIn_list _ (fun rest b s' => b.1 = none ∧ s' = s ∧ ∀ y ∈ rest, ∃ e, PV prog w s.heap y e ∧ e.hashable = true) _ ?_ ?_ _ _ ⟨rfl, rfl, hys⟩
  · rintro y rest b s' ⟨hb, rfl, hi⟩
    obtain ⟨e, hy, he⟩ := hi y (.head _)
    have hr : ∀ y ∈ rest, ∃ e, PV prog w s'.heap y e ∧ e.hashable = true := fun z hz => hi z (.tail _ hz)
    refine ite_both (wpAny_pure ⟨rfl, rfl, hr⟩) ?_
    refine wpAny_bind (pv_quiet hv hc ?_)
    simp only [Bool.not_true, Bool.false_eq_true, if_false]
    refine wpAny_bind (pv_quiet hy he ?_)
    simp only [Bool.not_true, Bool.false_eq_true, if_false]
    refine wpAny_bind (pv_noClass hv hc ?_)
    simp only [Bool.false_eq_true, if_false]
    refine wpAny_bind (pv_noClass hy he ?_)
    simp only [Bool.false_eq_true, if_false]
    exact wpAny_pure ⟨rfl, rfl, hr⟩
  · rintro ⟨b1, b2⟩ s' ⟨hb, rfl, _⟩
    simp only at hb
    subst hb
    exact wpAny_pure h

theorem pv_isSame {Q : Bool → Shared → Prop} (hv : PV prog w s.heap v c) (h : Q true s) : wpAny (model prog w) A (isSame v v) Q E s := by
  cases hv with
  | str x t ht =>
    show wpAny _ _ (isSame.created (x == x) t t) Q E s
    unfold isSame.created
    have h0 : (t == 0 || t == 0) = false := by simpa using ht
    rw [h0]
    simp only [Bool.false_eq_true, if_false, beq_self_eq_true, if_true]
    exact wpAny_pure h
  | tup p q r i => exact wpAny_isSame_ref_self h
  | lst p q r i => exact wpAny_isSame_ref_self h

theorem pv_byValue {Q : Bool → Shared → Prop} (hv : PV prog w s.heap v c) (hc : c.hashable = true) (h : ∀ b, Q b s) : wpAny (model prog w) A (hashByValue 8 v) Q E s := by
  cases hv with
  | str x t ht => exact wpAny_pure (h false)
  | tup p q r i =>
    rename_i a o its n xs
    have hT : s.TypeIs (.ref a) "tuple" := ⟨_, p, q⟩
    unfold hashByValue
    refine wpAny_bind (wpAny_specialOf hT F.slot_tuple_hash.lookup ?_)
    show wpAny _ _ (seqItems? (.ref a) >>= _) _ _ s
    refine wpAny_bind (wpAny_seqItems p r ?_)
    refine wpAny_bind ?_
    show wpAny _ _ (forIn its _ _) _ _ s
    rw [← Array.forIn_toList]
    refine wpAny_forIn_list _ (fun rest b s' => s' = s ∧ ∃ ys, ItemsAre (strKind prog w) ys rest) _ ?_ ?_ _ _ ⟨rfl, _, i⟩
    · rintro y rest b s' ⟨rfl, ys, hi⟩
      cases hi with
      | @cons k _ ys' _ h1 h2 =>
        obtain ⟨t, rfl⟩ := Value.isStrOf_shape h1
        refine wpAny_bind (wpAny_pure ?_)
        simp only [Bool.not_false, if_true]
        exact wpAny_pure (wpAny_pure (h _))
    · rintro ⟨b1, b2⟩ s' ⟨rfl, _⟩
      dsimp only
      split <;> exact wpAny_pure (h _)
  | lst => simp [Cont.hashable] at hc
end
end Mine

namespace Mine
open SetTable

/-- from the probe p an empty slot is met within n steps, and no dummy ahead of it -/
def Free (t : SetTable) : Nat → Probe → Prop
  | 0, p => t.slot p.j = .empty
  | n + 1, p => t.slot p.j = .empty ∨ ((∃ i, t.slot p.j = .live i) ∧ Free t n (t.advance p))

theorem advance_dummy (t : SetTable) (p : Probe) : (t.advance p).dummy = p.dummy := by
  unfold SetTable.advance; split <;> rfl

theorem probe_go (t : SetTable) (hashAt : Nat → Int) (h : Int) : ∀ (fuel n : Nat) (p : Probe), n < fuel → Free t n p → p.dummy = none →
    (∃ j, SetTable.probe.go t hashAt h fuel p = some (.empty j none) ∧ t.slot j = .empty) ∨
    ∃ j i nx m, SetTable.probe.go t hashAt h fuel p = some (.candidate j i nx) ∧ m < n ∧ Free t m nx ∧ nx.dummy = none ∧ t.slot j = .live i ∧ hashAt i = h := by
  intro fuel
  induction fuel with
  | zero => intro n p hn; exact absurd hn (Nat.not_lt_zero _)
  | succ fuel ih =>
    intro n p hn hF hd
    cases n with
    | zero =>
      have hF' : t.slot p.j = .empty := hF
      refine .inl ⟨p.j, ?_, hF'⟩
      unfold SetTable.probe.go
      rw [hF', hd]
    | succ n =>
      rcases hF with hF | ⟨⟨i, hi⟩, hF⟩
      · refine .inl ⟨p.j, ?_, hF⟩
        unfold SetTable.probe.go
        rw [hF, hd]
      · unfold SetTable.probe.go
        rw [hi]
        dsimp only
        by_cases hh : hashAt i = h
        · rw [if_pos (by simpa using hh)]
          exact .inr ⟨p.j, i, _, n, rfl, Nat.lt_succ_self n, hF, by rw [advance_dummy]; exact hd, hi, hh⟩
        · rw [if_neg (by simpa using hh)]
          rcases ih n _ (Nat.lt_of_succ_lt_succ hn) hF (by rw [advance_dummy]; exact hd) with h1 | ⟨j, i', nx, m, h1, h2, h3⟩
          · exact .inl h1
          · exact .inr ⟨j, i', nx, m, h1, Nat.lt_succ_of_lt h2, h3⟩

/-- a small table: eight slots, none of them a dummy -/
structure Small (t : SetTable) (n : Nat) : Prop where
  mask : t.mask = 7
  dummies : t.dummies = #[]
  size : t.place.size = n

theorem Small.slot_cases {t : SetTable} {n : Nat} (S : Small t n) (j : Nat) : t.slot j = .empty ∨ ∃ i, t.slot j = .live i ∧ t.place[i]? = some j := by
  unfold SetTable.slot
  dsimp only
  by_cases h : (t.place[below t.place j]? == some j) = true
  · rw [if_pos h]; exact .inr ⟨_, rfl, by simpa using h⟩
  · rw [if_neg h, S.dummies]
    refine .inl ?_
    have : has #[] j = false := by
      unfold has; simp
    rw [this]; rfl

theorem pigeon : ∀ (l m : List Nat), l.Nodup → (∀ x ∈ l, x ∈ m) → l.length ≤ m.length
  | [], _, _, _ => Nat.zero_le _
  | x :: r, m, hn, hs => by
    have hx : x ∈ m := hs x (.head _)
    obtain ⟨hnx, hr⟩ := List.nodup_cons.mp hn
    have h1 := pigeon r (m.erase x) hr fun y hy => by
      have hy' : y ∈ m := hs y (.tail _ hy)
      have hne : y ≠ x := fun e => hnx (e ▸ hy)
      exact (List.mem_erase_of_ne hne).mpr hy'
    have h2 := List.length_erase_of_mem hx
    have h3 : 0 < m.length := List.length_pos_of_mem hx
    simp only [List.length_cons]
    omega

theorem Small.empty_slot {t : SetTable} {n : Nat} (S : Small t n) (hn : n ≤ 4) : ∃ j, j < 8 ∧ t.slot j = .empty := by
  refine Classical.byContradiction fun hc => ?_
  have hl : ∀ j ∈ [0, 1, 2, 3, 4], j ∈ t.place.toList := fun j hj => by
    rcases S.slot_cases j with h | ⟨i, _, hi⟩
    · refine absurd ⟨j, ?_, h⟩ hc
      simp only [List.mem_cons, List.not_mem_nil, or_false] at hj
      omega
    · exact Array.mem_toList_iff.mpr (Array.mem_of_getElem? hi)
  have := pigeon [0, 1, 2, 3, 4] t.place.toList (by decide) hl
  have hs := S.size
  simp only [Array.length_toList, List.length_cons, List.length_nil] at this
  omega

/-- a probe in a small table stands at one slot and has no run -/
structure At (p : Probe) (a pt : Nat) : Prop where
  j : p.j = a
  i : p.i = a
  more : p.more = 0
  perturb : p.perturb = pt
  lt : a < 8

theorem At.advance {t : SetTable} {n : Nat} (S : Small t n) {p : Probe} {i pt : Nat} (P : At p i pt) : At (t.advance p) ((i * 5 + 1 + pt / 32) % 8) (pt / 32) := by
  unfold SetTable.advance SetTable.leap
  rw [if_neg (by rw [P.more]; decide), S.mask, P.i, P.perturb]
  have hlt : (i * 5 + 1 + pt / 32) % 8 < 8 := Nat.mod_lt _ (by decide)
  refine ⟨rfl, rfl, ?_, rfl, hlt⟩
  show runEnd 7 ((i * 5 + 1 + pt / 32) % 8) - (i * 5 + 1 + pt / 32) % 8 = 0
  unfold runEnd
  split <;> omega

def rot : Nat → Nat → Nat
  | 0, i => i
  | k + 1, i => rot k ((i * 5 + 1) % 8)

theorem rot_all : ∀ i < 8, ∀ j < 8, ∃ k, k < 8 ∧ rot k i = j := by decide

theorem free_zero {t : SetTable} {n : Nat} (S : Small t n) {j : Nat} (hj : t.slot j = .empty) : ∀ (k i : Nat) (p : Probe), At p i 0 → rot k i = j → Free t k p
  | 0, i, p, P, e => by
    show t.slot p.j = .empty
    rw [P.j]; rw [show i = j from e]; exact hj
  | k + 1, i, p, P, e => by
    rcases S.slot_cases p.j with h | ⟨i', h, _⟩
    · exact .inl h
    · refine .inr ⟨⟨i', h⟩, ?_⟩
      have P' := P.advance S
      rw [show 0 / 32 = 0 by decide, Nat.add_zero] at P'
      exact free_zero S hj k _ _ P' e

theorem Free.more {t : SetTable} : ∀ {k : Nat} {p : Probe}, Free t k p → Free t (k + 1) p
  | 0, _, h => .inl h
  | _ + 1, _, h => h.imp id fun ⟨a, b⟩ => ⟨a, b.more⟩
theorem Free.mono {t : SetTable} {k m : Nat} {p : Probe} (h : Free t k p) (hm : k ≤ m) : Free t m p := by
  induction hm with
  | refl => exact h
  | step _ ih => exact ih.more

theorem free_at {t : SetTable} {n : Nat} (S : Small t n) (hn : n ≤ 4) : ∀ (b i pt : Nat) (p : Probe), pt < 32 ^ b → At p i pt → Free t (b + 8) p
  | 0, i, pt, p, hp, P => by
    obtain ⟨j, hj8, hj⟩ := S.empty_slot hn
    obtain ⟨k, hk, e⟩ := rot_all i P.lt j hj8
    have : pt = 0 := by omega
    subst this
    exact (free_zero S hj k i p P e).mono (by omega)
  | b + 1, i, pt, p, hp, P => by
    rcases S.slot_cases p.j with h | ⟨i', h, _⟩
    · exact (show Free t 0 p from h).mono (Nat.zero_le _)
    · have := free_at S hn b _ (pt / 32) _ (Nat.div_lt_of_lt_mul (by rw [Nat.pow_succ] at hp; omega)) (P.advance S)
      rw [show b + 1 + 8 = (b + 8) + 1 by omega]
      exact .inr ⟨⟨i', h⟩, this⟩

theorem bits_lt (h : Int) : bits h < 2 ^ 64 := by
  unfold bits
  have h1 := Int.emod_lt_of_pos h (show (0 : Int) < 2 ^ 64 by decide)
  have h2 := Int.emod_nonneg h (show (2 ^ 64 : Int) ≠ 0 by decide)
  omega

theorem at_start {t : SetTable} {n : Nat} (S : Small t n) (h : Int) : At (t.probeStart h) (bits h % 8) (bits h) := by
  unfold probeStart
  rw [S.mask]
  refine ⟨rfl, rfl, ?_, rfl, Nat.mod_lt _ (by decide)⟩
  show runEnd 7 (bits h % (7 + 1)) - bits h % (7 + 1) = 0
  unfold runEnd
  split <;> omega

theorem free_start {t : SetTable} {n : Nat} (S : Small t n) (hn : n ≤ 4) (h : Int) : Free t 21 (t.probeStart h) := by
  have := free_at S hn 13 _ _ _ (Nat.lt_of_lt_of_le (bits_lt h) (by decide)) (at_start S h)
  exact this

theorem start_dummy (t : SetTable) (h : Int) : (t.probeStart h).dummy = none := rfl

theorem fuel_small {t : SetTable} {n : Nat} (S : Small t n) : 10 * turns t.mask = 220 := by rw [S.mask]; rfl

/-- where an element goes that is not there -/
theorem freeSlot_small {t : SetTable} {n : Nat} (S : Small t n) (hn : n ≤ 4) (h : Int) : ∃ j, t.freeSlot h = some (j, false) ∧ t.slot j = .empty := by
  unfold SetTable.freeSlot SetTable.probe
  rw [fuel_small S]
  rcases probe_go t (fun _ => h + 1) h 220 21 _ (by decide) (free_start S hn h) (start_dummy t h) with ⟨j, e, hj⟩ | ⟨j, i, nx, m, e, _, _, _, _, hh⟩
  · rw [e]; exact ⟨j, rfl, hj⟩
  · omega

theorem put_small {t : SetTable} {n : Nat} (S : Small t n) (j : Nat) : Small (t.put j).1 (n + 1) := by
  unfold SetTable.put
  dsimp only
  refine ⟨S.mask, ?_, ?_⟩
  · have : has t.dummies j = false := by rw [S.dummies]; unfold has; simp
    simp only [this, Bool.false_eq_true, if_false]
    exact S.dummies
  · show (insertAt t.place (below t.place j) j).size = n + 1
    have := (SetTable.insertAt_perm t.place (below t.place j) j).length_eq
    simp only [Array.length_toList, Array.size_push] at this
    rw [this, S.size]

/-- the first element goes to its own slot -/
theorem first_slot {t : SetTable} (S : Small t 0) (j : Nat) : t.slot j = .empty := by
  rcases S.slot_cases j with h | ⟨i, _, hi⟩
  · exact h
  · have : t.place = #[] := by have := S.size; simpa using this
    rw [this] at hi; simp at hi

theorem lone_slot {t : SetTable} {j : Nat} (hp : t.place = #[j]) : t.slot j = .live 0 := by
  unfold SetTable.slot
  have : below t.place j = 0 := by
    rw [hp]
    unfold below
    show below.go #[j] j 1 0 1 = 0
    unfold below.go
    simp
    unfold below.go
    rfl
  dsimp only
  rw [this, hp]
  simp

theorem put_first {t : SetTable} (S : Small t 0) (j : Nat) : (t.put j).1.place = #[j] ∧ (t.put j).2 = 0 := by
  have e : t.place = #[] := by have := S.size; simpa using this
  unfold SetTable.put
  dsimp only
  rw [e]
  have : below #[] j = 0 := rfl
  rw [this]
  exact ⟨rfl, rfl⟩
end Mine

namespace Mine
open SetTable

section
variable (prog : Program) (w : World)
structure SetAt (h : Heap) (a : Addr) (es : Array (Int × Value)) (t : SetTable) : Prop where
  ob : ∃ o ep, h.get? a = some o ∧ o.ExactSet ∧ o.data = .set es ep t
  small : Small t es.size
  els : ∀ e ∈ es.toList, ∃ c, PV prog w h e.2 c ∧ c.hashable = true ∧ c.ok = true ∧ e.1 = c.hash prog w
end

theorem Small.fits {t : SetTable} {n : Nat} (S : Small t n) (hn : n ≤ 4) : t.fits n = true := by
  unfold SetTable.fits SetTable.fill
  rw [S.mask, S.size, S.dummies]
  simp; omega

theorem probe_res {t : SetTable} {k m : Nat} {hashAt : Nat → Int} {h : Int} {p : Probe} {P : Option Met} (S : Small t k) (hP : t.probe hashAt h p = P) (hF : Free t m p) (hm : m < 220) (hd : p.dummy = none) :
    (∃ j, P = some (.empty j none) ∧ t.slot j = .empty) ∨
    ∃ j i nx m', P = some (.candidate j i nx) ∧ m' < m ∧ Free t m' nx ∧ nx.dummy = none ∧ t.slot j = .live i := by
  unfold SetTable.probe at hP
  rw [fuel_small S] at hP
  rcases probe_go t hashAt h 220 m p hm hF hd with ⟨j, e, hj⟩ | ⟨j, i, nx, m', e, h1, h2, h3, h4, _⟩
  · exact .inl ⟨j, hP ▸ e, hj⟩
  · exact .inr ⟨j, i, nx, m', hP ▸ e, h1, h2, h3, h4⟩

theorem live_place {t : SetTable} {n : Nat} (S : Small t n) {j i : Nat} (h : t.slot j = .live i) : i < n := by
  rcases S.slot_cases j with e | ⟨i', e, hi⟩
  · rw [e] at h; cases h
  · rw [e] at h; cases h
    have := Array.getElem?_eq_some_iff.mp hi
    obtain ⟨hlt, _⟩ := this
    rw [S.size] at hlt; exact hlt

section
variable {prog : Program} {w : World} {A : Around} {E : Value → Shared → Prop} {s : Shared} {a : Addr} {es : Array (Int × Value)} {t : SetTable} {x : Value} {c : Cont}

theorem setState_at {Q : (Array (Int × Value) × Nat × SetTable) → Shared → Prop} (X : SetAt prog w s.heap a es t) (hn : es.size ≤ 4) (h : ∀ ep, Q (es, ep, t) s) : wpAny (model prog w) A (setState a) Q E s := by
  obtain ⟨o, ep, ho, _, hd⟩ := X.ob
  exact wpAny_setState_of ho hd (X.small.fits hn) (h ep)

/-- from a candidate: it is the element, or the search goes on -/
theorem search_loop (hu : A.units + 8 < cLine) (X : SetAt prog w s.heap a es t) (hn : es.size ≤ 4) (hx : PV prog w s.heap x c) (hc : c.hashable = true) (hok : c.ok = true) {Q : SetFound → Shared → Prop}
    (hthere : (∃ e ∈ es.toList, PV prog w s.heap e.2 c) → Q (.there none) s) (hfree : ∀ j, t.slot j = .empty → Q (.free j false) s) :
    ∀ (m fuel : Nat) (stand : Option Probe), m < 220 → m < fuel → Free t m (stand.getD (t.probeStart (c.hash prog w))) → (stand.getD (t.probeStart (c.hash prog w))).dummy = none →
      wpAny (model prog w) A (setSearchFrom a x (c.hash prog w) true fuel stand) Q E s := by
  intro m
  induction m using Nat.strongRecOn with
  | ind m ih =>
    intro fuel stand hm hf hF hd
    cases fuel with
    | zero => exact absurd hf (Nat.not_lt_zero _)
    | succ fuel =>
      unfold setSearchFrom
      refine wpAny_bind (setState_at X hn fun ep => ?_)
      dsimp only
      have hg : t.gaveWay = false := by unfold SetTable.gaveWay; rw [X.small.mask]; rfl
      rw [hg]
      simp only [Bool.false_eq_true, if_false]
      generalize hP : SetTable.probe t _ (c.hash prog w) (stand.getD (t.probeStart (c.hash prog w))) = P
      rcases probe_res X.small hP hF hm hd with ⟨j, rfl, hj⟩ | ⟨j, i, nx, m', rfl, h1, h2, h3, h4⟩
      · dsimp only
        exact wpAny_pure (hfree j hj)
      · dsimp only
        have hi : i < es.size := live_place X.small h4
        have he : es[i]? = some (es[i].1, es[i].2) := Array.getElem?_eq_getElem hi
        have hmem : es[i] ∈ es.toList := Array.mem_toList_iff.mpr (Array.getElem_mem hi)
        obtain ⟨d, hy, hdh, hdok, _⟩ := X.els _ hmem
        have key : wpAny (model prog w) A (do
            let some (_, y) := es[i]? | unsupported "internal:set-entry"
            let equal ← holding [y] (eqBool y x)
            let (es', _, t') ← setState a
            if true && equal then return .there none
            let some same := t'.sameMemory t.moves t.mask | unsupported "set.changed-during-lookup:is-the-new-block-at-the-old-address"
            let still ← match (if same then t'.slot j else .empty) with
              | .live i' => match es'[i']? with
                | some (_, y') => do pure (if ← isSame y' y then some i' else none)
                | none => pure none
              | _ => pure none
            match still with
            | none => rule "set.search.anew"; setSearchFrom a x (c.hash prog w) true fuel none
            | some i' => if equal then return .there (some i') else setSearchFrom a x (c.hash prog w) true fuel (some nx)) Q E s := by
          rw [he]
          dsimp only
          refine wpAny_bind (wpAny_holding (pv_eqBool hy hx hdok hok hu ?_))
          refine wpAny_bind (setState_at X hn fun ep' => ?_)
          dsimp only
          by_cases hdc : d = c
          · subst hdc
            simp only [decide_true, Bool.and_self, if_true]
            exact wpAny_pure (hthere ⟨_, hmem, hy⟩)
          · simp only [decide_eq_false hdc, Bool.and_false, Bool.false_eq_true, if_false]
            have hsm : t.sameMemory t.moves t.mask = some true := by unfold SetTable.sameMemory; simp
            rw [hsm]
            simp only [if_true]
            rw [h4]
            dsimp only
            rw [he]
            dsimp only
            refine wpAny_bind (pv_isSame hy ?_)
            simp only [if_true]
            refine wpAny_bind (wpAny_pure ?_)
            dsimp only
            exact ih m' h1 fuel (some nx) (Nat.lt_trans h1 hm) (by omega) h2 h3
        cases hl : t.led with
        | true =>
          simp only [Bool.not_true, Bool.false_eq_true, if_false]
          exact key
        | false =>
          simp only [Bool.not_false, if_true]
          refine wpAny_bind (pv_unseen hx hc ?_ ?_)
          · intro y hy'
            obtain ⟨e, he', rfl⟩ := List.mem_map.mp hy'
            obtain ⟨d', p1, p2, _⟩ := X.els e (by
              have := Array.mem_toList_iff.mp he'
              exact Array.mem_toList_iff.mpr (Array.mem_filter.mp this).1)
            exact ⟨d', p1, p2⟩
          · simp only [Bool.false_eq_true, if_false]
            exact key
end
end Mine

namespace Mine
open SetTable

/-- how many things a set holds, so far as it matters -/
inductive Cnt where
  | zero
  | one (c : Cont)
  | many
def Cnt.add : Cnt → Cont → Cnt
  | .zero, c => .one c
  | .one d, c => if d = c then .one d else .many
  | .many, _ => .many

theorem Cnt.add_same (d : Cont) : (Cnt.one d).add d = .one d := by simp [Cnt.add]
theorem Cnt.add_other {d c : Cont} (h : d ≠ c) : (Cnt.one d).add c = .many := by simp [Cnt.add, h]
section
variable (prog : Program) (w : World)
def CntIs (h : Heap) (es : Array (Int × Value)) (t : SetTable) : Cnt → Prop
  | .zero => es.size = 0
  | .one c => ∃ v, es = #[(c.hash prog w, v)] ∧ PV prog w h v c ∧ t.place = #[bits (c.hash prog w) % 8]
  | .many => 2 ≤ es.size
def SetIs (h : Heap) (a : Addr) (k : Cnt) (n : Nat) : Prop := ∃ es t, SetAt prog w h a es t ∧ CntIs prog w h es t k ∧ es.size ≤ n
end

section
variable {prog : Program} {w : World} {A : Around} {E : Value → Shared → Prop} {s : Shared} {a : Addr} {es : Array (Int × Value)} {t : SetTable} {x : Value} {c : Cont} {k : Cnt} {n : Nat}

theorem PV.exact (h : PV prog w s.heap x c) {d : Cont} (h' : PV prog w s.heap x d) : c = d := by
  cases h with
  | str y t ht => cases h'; rfl
  | tup p q r i =>
    cases h' with
    | tup p' q' r' i' =>
      rw [p] at p'; cases p'; rw [r] at r'; cases r'; rw [i.inj i']
    | lst p' q' r' i' => rw [p] at p'; cases p'; rw [q] at q'; exact absurd q' (by decide)
  | lst p q r i =>
    cases h' with
    | tup p' q' r' i' => rw [p] at p'; cases p'; rw [q] at q'; exact absurd q' (by decide)
    | lst p' q' r' i' =>
      rw [p] at p'; cases p'; rw [r] at r'; cases r'; rw [i.inj i']

/-- found again: nothing changes -/
theorem cnt_there (X : SetAt prog w s.heap a es t) (C : CntIs prog w s.heap es t k) (hm : ∃ e ∈ es.toList, PV prog w s.heap e.2 c) : CntIs prog w s.heap es t (k.add c) := by
  obtain ⟨e, he, hp⟩ := hm
  cases k with
  | zero =>
    have : es = #[] := Array.size_eq_zero_iff.mp C
    rw [this] at he; simp at he
  | one d =>
    obtain ⟨v, rfl, hv, hpl⟩ := C
    simp only [List.mem_singleton] at he
    subst he
    have e := PV.exact hv hp
    subst e
    rw [Cnt.add_same]
    exact ⟨v, rfl, hv, hpl⟩
  | many => exact C

/-- the object behind a store -/
theorem store_at (X : SetAt prog w s.heap a es t) (hn : es.size ≤ 3) (hx : PV prog w s.heap x c) (hc : c.hashable = true) (hok : c.ok = true) (C : CntIs prog w s.heap es t k)
    {j : Nat} (hj : t.slot j = .empty) (hj0 : es.size = 0 → j = bits (c.hash prog w) % 8) (hnew : ∀ d, k = .one d → d ≠ c) {t' : SetTable} (ht' : t' = (t.put j).1 ∨ t' = { (t.put j).1 with plain := false })
    {es' : Array (Int × Value)} (he' : es' = insertAt es (t.put j).2 (c.hash prog w, x)) {Q : Unit → Shared → Prop}
    (h : ∀ h', Heap.SameBut a s.heap h' → SetAt prog w h' a es' t' → CntIs prog w h' es' t' (k.add c) → es'.size = es.size + 1 → Q () { s with heap := h' }) :
    wpAny (model prog w) A (storeSet a es' t') Q E s := by
  obtain ⟨o, ep, ho, hex, hd⟩ := X.ob
  have hperm := SetTable.insertAt_perm es (t.put j).2 (c.hash prog w, x)
  rw [← he'] at hperm
  have hsz : es'.size = es.size + 1 := by
    have := hperm.length_eq
    simpa using this
  have hS := put_small X.small j
  have hS' : Small t' (es.size + 1) := by
    rcases ht' with rfl | rfl
    · exact hS
    · exact ⟨hS.mask, hS.dummies, hS.size⟩
  refine wpAny_storeSet_of ho hd ?_ (by rw [hsz, sizeLine_eq]; omega)
  have hsb := Heap.SameBut.update s.heap a (Obj.putSet es' t')
  have hpv : ∀ {v d}, PV prog w s.heap v d → PV prog w (s.heap.update a (Obj.putSet es' t')) v d := fun hv => hv.but (a := a)
    (fun o' q => by rw [ho] at q; cases q; rw [hex.1]; exact ⟨by decide, by decide⟩) (fun b o' hb q => (hsb.2 b hb).trans q)
  refine h _ hsb ⟨⟨{ o with data := .set es' (ep + 1) t' }, ep + 1, (by
      have := Heap.get?_update_self (Obj.putSet es' t') ho (by rw [putSet_of es' t' hd]; rfl)
      rw [putSet_of es' t' hd] at this; exact this), hex, rfl⟩, (by rw [hsz]; exact hS'), fun e he => ?_⟩ ?_ hsz
  · have := hperm.mem_iff.mp he
    rw [Array.toList_push] at this
    rcases List.mem_append.mp this with q | q
    · obtain ⟨d, h1, h2, h3, h4⟩ := X.els e q
      exact ⟨d, hpv h1, h2, h3, h4⟩
    · rw [List.mem_singleton] at q; subst q
      exact ⟨c, hpv hx, hc, hok, rfl⟩
  · cases k with
    | zero =>
      have h0 : es.size = 0 := C
      have e0 : es = #[] := by simpa using h0
      have hS0 : Small t 0 := by have := X.small; rw [h0] at this; exact this
      obtain ⟨p1, p2⟩ := put_first hS0 j
      refine ⟨x, ?_, hpv hx, ?_⟩
      · rw [he', p2, e0]; rfl
      · have : t'.place = (t.put j).1.place := by rcases ht' with rfl | rfl <;> rfl
        rw [this, p1, hj0 h0]
    | one d =>
      obtain ⟨v, rfl, _, _⟩ := C
      rw [Cnt.add_other (hnew d rfl)]
      show 2 ≤ es'.size
      rw [hsz]; exact Nat.le_refl 2
    | many =>
      show 2 ≤ es'.size
      have : 2 ≤ es.size := C
      omega

theorem notFull {t : SetTable} {m : Nat} (S : Small t m) (hm : m ≤ 4) : t.tooFull = false := by
  unfold SetTable.tooFull SetTable.fill
  rw [S.mask, S.size, S.dummies]
  simp; omega

theorem probe_first {t : SetTable} {k : Nat} {hashAt : Nat → Int} {h : Int} {p : Probe} {i : Nat} (S : Small t k) (hs : t.slot p.j = .live i) (hh : hashAt i = h) :
    t.probe hashAt h p = some (.candidate p.j i (t.advance p)) := by
  unfold SetTable.probe
  rw [fuel_small S]
  unfold SetTable.probe.go
  rw [hs]
  dsimp only
  rw [if_pos (by simpa using hh)]

theorem search_found {v : Value} (hu : A.units + 8 < cLine) (X : SetAt prog w s.heap a #[(c.hash prog w, v)] t) (hv : PV prog w s.heap v c) (hpl : t.place = #[bits (c.hash prog w) % 8]) (hx : PV prog w s.heap x c) (hc : c.hashable = true) (hok : c.ok = true)
    {Q : SetFound → Shared → Prop} (h : Q (.there none) s) (fuel : Nat) : wpAny (model prog w) A (setSearchFrom a x (c.hash prog w) true (fuel + 1) none) Q E s := by
  unfold setSearchFrom
  refine wpAny_bind (setState_at X (by show 1 ≤ 4; decide) fun ep => ?_)
  dsimp only
  have hg : t.gaveWay = false := by unfold SetTable.gaveWay; rw [X.small.mask]; rfl
  rw [hg]
  simp only [Bool.false_eq_true, if_false]
  have hj : (t.probeStart (c.hash prog w)).j = bits (c.hash prog w) % 8 := (at_start X.small _).j
  have hs : t.slot (t.probeStart (c.hash prog w)).j = .live 0 := by rw [hj]; exact lone_slot hpl
  rw [show (Option.getD none (t.probeStart (c.hash prog w))) = t.probeStart (c.hash prog w) from rfl, probe_first X.small hs (by rfl)]
  dsimp only
  cases hl : t.led with
  | true =>
    simp only [Bool.not_true, Bool.false_eq_true, if_false]
    show wpAny _ _ (holding [v] (eqBool v x) >>= _) Q E s
    refine wpAny_bind (wpAny_holding (pv_eqBool hv hx hok hok hu ?_))
    refine wpAny_bind (setState_at X (by show 1 ≤ 4; decide) fun ep' => ?_)
    simp only [decide_true, Bool.and_self, if_true]
    exact wpAny_pure h
  | false =>
    simp only [Bool.not_false, if_true]
    refine wpAny_bind (pv_unseen hx hc ?_ ?_)
    · intro y hy'
      obtain ⟨e, he', rfl⟩ := List.mem_map.mp hy'
      obtain ⟨d', p1, p2, _⟩ := X.els e (by
        have := Array.mem_toList_iff.mp he'
        exact Array.mem_toList_iff.mpr (Array.mem_filter.mp this).1)
      exact ⟨d', p1, p2⟩
    · simp only [Bool.false_eq_true, if_false]
      show wpAny _ _ (holding [v] (eqBool v x) >>= _) Q E s
      refine wpAny_bind (wpAny_holding (pv_eqBool hv hx hok hok hu ?_))
      refine wpAny_bind (setState_at X (by show 1 ≤ 4; decide) fun ep' => ?_)
      simp only [decide_true, Bool.and_self, if_true]
      exact wpAny_pure h

theorem probe_zero {t : SetTable} {k : Nat} {hashAt : Nat → Int} {h : Int} {p : Probe} (S : Small t k) (hs : t.slot p.j = .empty) (hd : p.dummy = none) :
    t.probe hashAt h p = some (.empty p.j none) := by
  unfold SetTable.probe
  rw [fuel_small S]
  unfold SetTable.probe.go
  rw [hs, hd]

theorem search_zero (X : SetAt prog w s.heap a es t) (h0 : es.size = 0) {Q : SetFound → Shared → Prop} {hh : Int} (h : Q (.free (bits hh % 8) false) s) (fuel : Nat) : wpAny (model prog w) A (setSearchFrom a x hh true (fuel + 1) none) Q E s := by
  unfold setSearchFrom
  refine wpAny_bind (setState_at X (by omega) fun ep => ?_)
  dsimp only
  have hg : t.gaveWay = false := by unfold SetTable.gaveWay; rw [X.small.mask]; rfl
  rw [hg]
  simp only [Bool.false_eq_true, if_false]
  have S0 : Small t 0 := by have := X.small; rw [h0] at this; exact this
  have hj : (t.probeStart hh).j = bits hh % 8 := (at_start X.small _).j
  rw [show (Option.getD none (t.probeStart hh)) = t.probeStart hh from rfl, probe_zero X.small (first_slot S0 _) rfl]
  dsimp only
  rw [hj]
  exact wpAny_pure h

theorem freeSlot_zero {t : SetTable} (S : Small t 0) (h : Int) : t.freeSlot h = some (bits h % 8, false) := by
  unfold SetTable.freeSlot
  rw [probe_zero S (first_slot S _) rfl, (at_start S h).j]
  rfl

theorem set_add {Q : Bool → Shared → Prop} (hu : A.units + 8 < cLine) (hS : SetIs prog w s.heap a k n) (hn : n ≤ 3) (hx : PV prog w s.heap x c) (hc : c.hashable = true) (hok : c.ok = true)
    (h : ∀ h' tk b, Heap.SameBut a s.heap h' → SetIs prog w h' a (k.add c) (n + 1) → Q b { s with heap := h', toks := tk }) : wpAny (model prog w) A (setAdd a x) Q E s := by
  unfold setAdd
  refine wpAny_holding (wpAny_bind (pv_hash (by omega) hx hc fun tk => ?_))
  obtain ⟨es, t, X, C, hsz⟩ := hS
  unfold setAddHashed setAddHashedIn
  have X' : SetAt prog w ({ s with toks := tk } : Shared).heap a es t := X
  refine wpAny_holding (wpAny_bind (setState_at X' (by omega) fun ep => ?_))
  dsimp only
  have hsame : (∃ e ∈ es.toList, PV prog w s.heap e.2 c) → ∀ b, Q b { s with toks := tk } := fun hm b => by
    have := h s.heap tk b (Heap.SameBut.refl a s.heap) ⟨es, t, X, cnt_there X C hm, by omega⟩
    exact this
  have hadd : ∀ j, t.slot j = .empty → (es.size = 0 → j = bits (c.hash prog w) % 8) → (∀ d, k = .one d → d ≠ c) → ∀ (t' : SetTable) (es' : Array (Int × Value)), (t' = (t.put j).1 ∨ t' = { (t.put j).1 with plain := false }) →
      es' = insertAt es (t.put j).2 (c.hash prog w, x) → ∀ {β : Type} (m : Unit → Sem β) (R : β → Shared → Prop), (∀ h', Small t' es'.size → es'.size ≤ 4 → (∀ b, Q b { s with heap := h', toks := tk }) → wpAny (model prog w) A (m ()) R E { s with heap := h', toks := tk }) →
      wpAny (model prog w) A (storeSet a es' t' >>= m) R E { s with toks := tk } := fun j hj hj0 hnew t' es' ht' he' β m R hm =>
    wpAny_bind (store_at (s := { s with toks := tk }) X' (by omega) hx hc hok C hj hj0 hnew ht' he' fun h' hsb SA CI hsz' =>
      hm h' SA.small (by omega) fun b => h h' tk b hsb ⟨es', t', SA, CI, by omega⟩)
  by_cases hb : byScan x es = true
  · rw [if_pos hb]
    unfold byScan at hb
    simp only [Bool.and_eq_true, decide_eq_true_eq] at hb
    obtain ⟨⟨hxs, _⟩, hall⟩ := hb
    -- the texts alone
    obtain ⟨y, ty, rfl, rfl⟩ : ∃ y ty, x = .str y ty ∧ c = .str y := by
      cases hx with
      | str y ty ht => exact ⟨y, ty, rfl, rfl⟩
      | tup => simp [Value.scannable] at hxs
      | lst => simp [Value.scannable] at hxs
    have hel : ElemsOf (strKind prog w) es.toList := fun e he => by
      obtain ⟨d, hd, _, _, hh⟩ := X.els e he
      have hsc : e.2.scannable = true := by
        have := Array.all_eq_true'.mp hall e (Array.mem_toList_iff.mp he)
        exact this
      cases hd' : e.2 with
      | str z tz =>
        rw [hd'] at hd
        cases hd
        exact ⟨⟨z, strKind_is prog w z tz, hh⟩, rfl⟩
      | ref r => rw [hd'] at hsc; simp [Value.scannable] at hsc
      | _ => rw [hd'] at hd; cases hd
    obtain ⟨o, ep', ho, hex, hd⟩ := X.ob
    unfold setAddByScan
    refine wpAny_bind (wpAny_bind (wpAny_rule ?_))
    refine wpAny_bind (wpAny_setScan_of (knd := strKind prog w) (s := { s with toks := tk }) (k := y) (strKind_is prog w y ty) ho hd (X.small.fits (by omega)) hel ?_)
    cases hr : List.findIdx? (fun e => (strKind prog w).is y e.2) es.toList with
    | some j =>
      dsimp only
      obtain ⟨hj, hpj, _⟩ := List.findIdx?_eq_some_iff_getElem.mp hr
      refine wpAny_pure (wpAny_pure (hsame ⟨es.toList[j], List.getElem_mem hj, ?_⟩ _))
      obtain ⟨d, hdd, _, _, _⟩ := X.els _ (List.getElem_mem hj)
      obtain ⟨t', e'⟩ := Value.isStrOf_shape hpj
      rw [e'] at hdd ⊢
      cases hdd with
      | str _ _ ht => exact .str _ _ ht
    | none =>
      dsimp only
      have hno : ∀ d, k = .one d → d ≠ .str y := fun d hk e => by
        subst hk; subst e
        obtain ⟨v, rfl, hv, _⟩ := C
        cases hv with
        | str _ t' ht' =>
          have := List.findIdx?_eq_none_iff.mp hr (Cont.hash prog w (.str y), .str y t') (by simp)
          rw [show (strKind prog w).is y (Value.str y t') = true from strKind_is prog w y t'] at this
          exact Bool.noConfusion this
      obtain ⟨j, hfs, hj, hj0⟩ : ∃ j, t.freeSlot (Cont.hash prog w (.str y)) = some (j, false) ∧ t.slot j = .empty ∧ (es.size = 0 → j = bits (Cont.hash prog w (.str y)) % 8) := by
        by_cases h0 : es.size = 0
        · have S0 : Small t 0 := by have := X.small; rw [h0] at this; exact this
          exact ⟨_, freeSlot_zero S0 _, first_slot S0 _, fun _ => rfl⟩
        · obtain ⟨j, h1, h2⟩ := freeSlot_small X.small (by omega) (Cont.hash prog w (.str y))
          exact ⟨j, h1, h2, fun e => absurd e h0⟩
      have hput := put_small X.small j
      have hsz' : (insertAt es (t.put j).2 (Cont.hash prog w (.str y), Value.str y ty)).size = es.size + 1 := by
        have := (SetTable.insertAt_perm es (t.put j).2 (Cont.hash prog w (.str y), Value.str y ty)).length_eq
        simpa using this
      have hfit : (t.put j).1.fits (insertAt es (t.put j).2 (Cont.hash prog w (.str y), Value.str y ty)).size = true := by rw [hsz']; exact hput.fits (by omega)
      have hL : layNew t es (Cont.hash prog w (.str y)) (Value.str y ty) = (insertAt es (t.put j).2 (Cont.hash prog w (.str y), Value.str y ty), (t.put j).1, false, false) := by
        unfold layNew
        rw [hfs]
        dsimp only
        unfold SetTable.orStandIn
        rw [if_pos hfit, hfit]
        rfl
      rw [hL]
      dsimp only
      refine wpAny_bind (wpAny_pure ?_)
      refine ite_both ?_ ?_
      · refine wpAny_bind (pv_byValue (s := { s with toks := tk }) hx hc fun b => ?_)
        refine hadd j hj hj0 hno _ _ (by cases b <;> simp) rfl _ _ fun h' hS' h4 hq => ?_
        rw [notFull hS' h4]
        simp only [Bool.not_false, Bool.and_false, Bool.false_eq_true, if_false]
        exact wpAny_pure (wpAny_pure (hq true))
      · refine wpAny_bind (wpAny_pure ?_)
        refine hadd j hj hj0 hno _ _ (by simp) rfl _ _ fun h' hS' h4 hq => ?_
        rw [notFull hS' h4]
        simp only [Bool.not_false, Bool.and_false, Bool.false_eq_true, if_false]
        exact wpAny_pure (wpAny_pure (hq true))
  · rw [if_neg hb]
    have hcont : ∀ (r : SetFound), (r = .there none ∧ (∀ b, Q b { s with toks := tk })) ∨ (∃ j, r = .free j false ∧ t.slot j = .empty ∧ (es.size = 0 → j = bits (c.hash prog w) % 8) ∧ ∀ d, k = .one d → d ≠ c) →
        wpAny (model prog w) A (do
          let .free slot wasDummy ← (pure r : Sem SetFound) | return false
          let (es, _, t) ← setState a
          let (t, p) := t.put slot
          let byValue ← if t.plain then hashByValue 8 x else pure true
          let t := if byValue then t else { t with plain := false }
          storeSet a (SetTable.insertAt es p (c.hash prog w, x)) t
          if !wasDummy && t.tooFull then setRelay a (SetTable.grown (es.size + 1))
          return true) Q E { s with toks := tk } := by
      rintro r (⟨rfl, hq⟩ | ⟨j, rfl, hj, hj0, hnew⟩)
      · refine wpAny_bind (wpAny_pure ?_)
        exact wpAny_pure (hq _)
      · refine wpAny_bind (wpAny_pure ?_)
        dsimp only
        refine wpAny_bind (setState_at X' (by omega) fun ep => ?_)
        dsimp only
        have fin : ∀ (t' : SetTable), (t' = (t.put j).1 ∨ t' = { (t.put j).1 with plain := false }) → wpAny (model prog w) A (do
            storeSet a (SetTable.insertAt es (t.put j).2 (c.hash prog w, x)) t'
            if !false && t'.tooFull then do setRelay a (SetTable.grown (es.size + 1)); pure true
            else pure true) Q E { s with toks := tk } := fun t' ht' => by
          refine hadd j hj hj0 hnew t' _ ht' rfl _ _ fun h' hS' h4 hq => ?_
          rw [notFull hS' h4]
          simp only [Bool.not_false, Bool.and_false, Bool.false_eq_true, if_false]
          exact wpAny_pure (hq true)
        refine ite_both ?_ ?_
        · refine wpAny_bind (pv_byValue (s := { s with toks := tk }) hx hc fun b => ?_)
          exact fin _ (by cases b <;> simp)
        · refine wpAny_bind (wpAny_pure ?_)
          exact fin _ (by simp)
    have hgo : wpAny (model prog w) A (setSearch a x (c.hash prog w) true) (fun r s' => s' = { s with toks := tk } ∧ ((r = .there none ∧ (∀ b, Q b { s with toks := tk })) ∨ (∃ j, r = .free j false ∧ t.slot j = .empty ∧ (es.size = 0 → j = bits (c.hash prog w) % 8) ∧ ∀ d, k = .one d → d ≠ c))) E { s with toks := tk } := by
      unfold setSearch
      by_cases hk : k = .one c
      · subst hk
        obtain ⟨v, rfl, hv, hpl⟩ := C
        exact search_found hu X' hv hpl hx hc hok ⟨rfl, .inl ⟨rfl, hsame ⟨(c.hash prog w, v), by simp, hv⟩⟩⟩ 99999
      · by_cases h0 : es.size = 0
        · have S0 : Small t 0 := by have := X.small; rw [h0] at this; exact this
          exact search_zero X' h0 ⟨rfl, .inr ⟨_, rfl, first_slot S0 _, fun _ => rfl, fun d hd e => hk (by rw [hd, e])⟩⟩ 99999
        · exact search_loop hu X' (by omega) hx hc hok (fun hm => ⟨rfl, .inl ⟨rfl, hsame hm⟩⟩) (fun j hj => ⟨rfl, .inr ⟨j, rfl, hj, fun e => absurd e h0, fun d hd e => hk (by rw [hd, e])⟩⟩) 21 100000 none (by decide) (by decide) (free_start X.small (by omega) _) rfl
    refine wpAny_bind (wpAny_mono hgo (fun r s' hr => ?_) fun _ _ e => e)
    obtain ⟨rfl, hr⟩ := hr
    have := hcont r hr
    rw [pure_bind] at this
    exact this
end
end Mine

namespace Mine
section
variable {prog : Program} {w : World} {A : Around} {s : Shared}

theorem SetIs.but {h h' : Heap} {a b : Addr} {k : Cnt} {n : Nat} (X : SetIs prog w h a k n) (hne : a ≠ b) (hcls : ∀ o, h.get? b = some o → o.cls ≠ .type "tuple" ∧ o.cls ≠ .type "list")
    (hk : ∀ c o, c ≠ b → h.get? c = some o → h'.get? c = some o) : SetIs prog w h' a k n := by
  obtain ⟨es, t, SA, C, hs⟩ := X
  obtain ⟨o, ep, ho, r⟩ := SA.ob
  refine ⟨es, t, ⟨⟨o, ep, hk _ _ hne ho, r⟩, SA.small, fun e he => ?_⟩, ?_, hs⟩
  · obtain ⟨c, hc, q⟩ := SA.els e he
    exact ⟨c, hc.but (a := b) hcls hk, q⟩
  · cases k with
    | zero => exact C
    | one d => obtain ⟨v, e, hv, p⟩ := C; exact ⟨v, e, hv.but (a := b) hcls hk, p⟩
    | many => exact C
theorem SetIs.keeps {h h' : Heap} {a : Addr} {k : Cnt} {n : Nat} (X : SetIs prog w h a k n) (hk : ∀ c o, h.get? c = some o → h'.get? c = some o) : SetIs prog w h' a k n := by
  obtain ⟨es, t, SA, C, hs⟩ := X
  obtain ⟨o, ep, ho, r⟩ := SA.ob
  refine ⟨es, t, ⟨⟨o, ep, hk _ _ ho, r⟩, SA.small, fun e he => ?_⟩, ?_, hs⟩
  · obtain ⟨c, hc, q⟩ := SA.els e he
    exact ⟨c, hc.keeps hk, q⟩
  · cases k with
    | zero => exact C
    | one d => obtain ⟨v, e, hv, p⟩ := C; exact ⟨v, e, hv.keeps hk, p⟩
    | many => exact C
theorem SetIs.cls {h : Heap} {a : Addr} {k : Cnt} {n : Nat} (X : SetIs prog w h a k n) : ∀ o, h.get? a = some o → o.cls ≠ .type "tuple" ∧ o.cls ≠ .type "list" := fun o e => by
  obtain ⟨es, t, SA, C, hs⟩ := X
  obtain ⟨o', ep, ho, hex, _⟩ := SA.ob
  rw [ho] at e; cases e
  rw [hex.1]; exact ⟨by decide, by decide⟩

/-- the things and what they hold -/
inductive PVs (prog : Program) (w : World) (h : Heap) : List Value → List Cont → Prop
  | nil : PVs prog w h [] []
  | cons {v : Value} {c : Cont} {vs : List Value} {cs : List Cont} : PV prog w h v c → c.ok = true → PVs prog w h vs cs → PVs prog w h (v :: vs) (c :: cs)

theorem PVs.map {h h' : Heap} (f : ∀ v c, PV prog w h v c → PV prog w h' v c) : ∀ {vs : List Value} {cs : List Cont}, PVs prog w h vs cs → PVs prog w h' vs cs
  | _, _, .nil => .nil
  | _, _, .cons p q r => .cons (f _ _ p) q (PVs.map f r)
theorem PVs.length {h : Heap} : ∀ {vs : List Value} {cs : List Cont}, PVs prog w h vs cs → vs.length = cs.length
  | _, _, .nil => rfl
  | _, _, .cons _ _ r => by simp [PVs.length r]
theorem PVs.at {h : Heap} : ∀ {vs : List Value} {cs : List Cont}, PVs prog w h vs cs → ∀ (i : Nat) (hi : i < cs.length), ∃ v, vs[i]? = some v ∧ PV prog w h v cs[i] ∧ cs[i].ok = true
  | _, _, .nil, i, hi => absurd hi (Nat.not_lt_zero _)
  | _, _, .cons p q r, 0, _ => ⟨_, rfl, p, q⟩
  | _, _, .cons p q r, i + 1, hi => by
    obtain ⟨v, h1, h2⟩ := PVs.at r i (Nat.lt_of_succ_lt_succ hi)
    exact ⟨v, by simpa using h1, h2⟩

/-- the loop of set(tuple) -/
theorem set_loop (hu : A.units + 12 < cLine) (hh : A.handled = none) {S it tp : Addr} {vs : List Value} {cs : List Cont} (hSi : S ≠ it) (htS : tp ≠ S) (hti : tp ≠ it) (hlen : cs.length ≤ 4) {R : Result → Shared → Prop} {s₀ : Shared}
    (hok : ∀ h' tk, (∀ c ∈ cs, c.hashable = true) → (∀ b o, b ≠ S → b ≠ it → s₀.heap.get? b = some o → h'.get? b = some o) → SetIs prog w h' S (cs.foldl Cnt.add .zero) 4 → R (.ok (.ret .none)) { s₀ with heap := h', toks := tk })
    (hbad : ∀ h' h'' tk e, (∃ c ∈ cs, c.hashable = false) → (∀ b o, b ≠ S → b ≠ it → s₀.heap.get? b = some o → h'.get? b = some o) → Heap.NewExc h' h'' e "TypeError" → R (.error (.ref e)) { s₀ with heap := h'', toks := tk }) :
    ∀ (k i : Nat) (h : Heap) (tk : Nat), cs.length - i = k → i ≤ cs.length → (∀ c ∈ cs.take i, c.hashable = true) → h.IsTupleIter it tp i → h.IsTuple tp vs.toArray → PVs prog w h vs cs → SetIs prog w h S ((cs.take i).foldl Cnt.add .zero) i →
      (∀ b o, b ≠ S → b ≠ it → s₀.heap.get? b = some o → h.get? b = some o) →
      codeAny (model prog w) A (.builtin "set.update.loop" ⟨[.ref S, .ref it], []⟩) R { s₀ with heap := h, toks := tk } := by
  intro k
  induction k with
  | zero =>
    intro i h tk hk hi hhs hit htp hpv hS hkeep
    have hin : i = cs.length := by omega
    subst hin
    refine codeAny_builtin PyProof.Rows.F.entry_set_update_loop ?_
    rw [Around.under_plainId PyProof.Rows.F.plain_set_update_loop _]
    show wpAny _ A.in1 (pyNext (.ref it) >>= _) _ _ _
    refine wpAny_bind (wpAny_pyNext_tuple_end (s := { s₀ with heap := h, toks := tk }) (items := vs.toArray) hh hit htp (by rw [List.getElem?_toArray]; exact List.getElem?_eq_none (by rw [hpv.length]; exact Nat.le_refl _)) fun h' hb => ?_)
    show wpAny _ A.in1 (ret Value.none) _ _ _
    refine wpAny_pure (hok h' tk (by simpa using hhs) (fun b o h1 h2 e => hb b o h2 (hkeep b o h1 h2 e)) ?_)
    rw [List.take_length] at hS
    have hl : ∀ o, h.get? it = some o → o.cls ≠ .type "tuple" ∧ o.cls ≠ .type "list" := fun o e => by
      obtain ⟨o', ho', hc, _⟩ := hit
      rw [ho'] at e; cases e; rw [hc]; exact ⟨by decide, by decide⟩
    obtain ⟨es, t, p1, p2, p3⟩ := hS.but (b := it) hSi hl fun c o hc e => hb c o hc e
    exact ⟨es, t, p1, p2, by omega⟩
  | succ k ih =>
    intro i h tk hk hi hhs hit htp hpv hS hkeep
    have hlt : i < cs.length := by omega
    obtain ⟨v, hv, hpi, hoki⟩ := hpv.at i hlt
    refine codeAny_builtin PyProof.Rows.F.entry_set_update_loop ?_
    rw [Around.under_plainId PyProof.Rows.F.plain_set_update_loop _]
    show wpAny _ A.in1 (pyNext (.ref it) >>= _) _ _ _
    refine wpAny_bind (wpAny_pyNext_tuple_item (s := { s₀ with heap := h, toks := tk }) (items := vs.toArray) hit htp (by simpa using hv) fun h₁ hit₁ hs₁ => ?_)
    have hl : ∀ o, h.get? it = some o → o.cls ≠ .type "tuple" ∧ o.cls ≠ .type "list" := fun o e => by
      obtain ⟨o', ho', hc, _⟩ := hit
      rw [ho'] at e; cases e; rw [hc]; exact ⟨by decide, by decide⟩
    have up₁ : ∀ c o, c ≠ it → h.get? c = some o → h₁.get? c = some o := fun c o hc e => (hs₁.2 c hc).trans e
    have hS₁ := hS.but (b := it) hSi hl up₁
    have hpv₁ : PVs prog w h₁ vs cs := hpv.map fun v c x => x.but (a := it) hl up₁
    have hpi₁ : PV prog w h₁ v cs[i] := hpi.but (a := it) hl up₁
    show wpAny _ A.in1 (holding [v] (setAdd S v) >>= _) _ _ _
    refine wpAny_bind (wpAny_holding ?_)
    have htk : cs.take (i + 1) = cs.take i ++ [cs[i]] := by rw [List.take_succ_eq_append_getElem hlt]
    by_cases hc : cs[i].hashable = true
    · refine set_add (s := { s₀ with heap := h₁, toks := tk }) (c := cs[i]) (by show A.units + 1 + 8 < cLine; omega) hS₁ (by omega) hpi₁ hc hoki fun h₂ tk₂ b hs₂ hS₂ => ?_
      have up₂ : ∀ c o, c ≠ S → h₁.get? c = some o → h₂.get? c = some o := fun c o hc e => (hs₂.2 c hc).trans e
      refine wpAny_pure ⟨plainId_quiet PyProof.Rows.F.plain_set_update_loop _, ih (i + 1) h₂ tk₂ (by omega) hlt ?_ ?_ ?_ ?_ ?_ ?_⟩
      · intro c hm
        rw [htk] at hm
        rcases List.mem_append.mp hm with q | q
        · exact hhs c q
        · rw [List.mem_singleton] at q; rw [q]; exact hc
      · obtain ⟨o, ho, r⟩ := hit₁; exact ⟨o, up₂ _ _ (Ne.symm hSi) ho, r⟩
      · obtain ⟨o, ho, r⟩ := htp; exact ⟨o, up₂ _ _ htS (up₁ _ _ hti ho), r⟩
      · exact hpv₁.map fun v c x => x.but (a := S) hS₁.cls up₂
      · rw [htk, List.foldl_append]; exact hS₂
      · exact fun b o h1 h2 e => up₂ b o h1 (up₁ b o h2 (hkeep b o h1 h2 e))
    · have hc' : cs[i].hashable = false := by simpa using hc
      unfold setAdd
      refine wpAny_holding (wpAny_bind (pv_unhash (s := { s₀ with heap := h₁, toks := tk }) (by show A.units + 1 < cLine; omega) hh hpi₁ hc' fun h₂ tk₂ e x => ?_))
      exact hbad h₁ h₂ tk₂ e ⟨_, List.getElem_mem hlt, hc'⟩ (fun b o h1 h2 e => up₁ b o h2 (hkeep b o h1 h2 e)) x
end
end Mine

namespace Mine
theorem sub_tuple_set : isSubtype (.type "tuple") (.type "set") = pure false := by rw [isSubtype_type]; kernel_rfl
theorem sub_tuple_frozenset : isSubtype (.type "tuple") (.type "frozenset") = pure false := by rw [isSubtype_type]; kernel_rfl

section
variable {prog : Program} {w : World} {A : Around} {E : Value → Shared → Prop} {s : Shared}

theorem set_fresh (h : Heap) (led : Bool) : SetIs prog w (h.push { cls := .type "set", dict := none, data := .set #[] 0 (.fresh 0 0 led) }) h.objs.size .zero 0 :=
  ⟨#[], _, ⟨⟨_, 0, Heap.get?_push_size _ rfl, ⟨rfl, rfl, rfl⟩, rfl⟩, ⟨rfl, rfl, rfl⟩, fun e he => by simp at he⟩, rfl, Nat.le_refl _⟩

set_option maxHeartbeats 3200000 in
theorem call_set_pv (hu : A.units + 40 < cLine) (hh : A.handled = none) {tp : Addr} {vs : List Value} {cs : List Cont} (htp : s.heap.IsTuple tp vs.toArray) (hpv : PVs prog w s.heap vs cs) (hlen : cs.length ≤ 4) {Q : Value → Shared → Prop}
    (hok : ∀ h' tk S, (∀ c ∈ cs, c.hashable = true) → (∀ b o, s.heap.get? b = some o → h'.get? b = some o) → s.heap.get? S = none → SetIs prog w h' S (cs.foldl Cnt.add .zero) 4 → Q (.ref S) { s with heap := h', toks := tk })
    (hbad : ∀ h' tk e, (∃ c ∈ cs, c.hashable = false) → Heap.NewExc s.heap h' e "TypeError" → E (.ref e) { s with heap := h', toks := tk }) :
    wpAny (model prog w) A (call (.type "set") [.ref tp]) Q E s := by
  obtain ⟨c, tl, hmro⟩ := F.called_set.mro
  have hmade := F.called_set.made
  have hsub := F.called_set.sub
  refine wpAny_call (codeAny_of_tree ?_)
  show wpAny _ _ (callAny (.type "set") _) _ _ _
  refine wpAny_pure ⟨Code.quiet_builtin _ (by decide +kernel), codeAny_builtin F.entry_type_call ?_⟩
  rw [Around.under_plain (weight_type_call_type "set" [.ref tp] []) rfl]
  have h1 := F.called_set.notType
  have h2 := F.called_set.canCreate
  have hct := F.typeCall_set_1 (.ref tp)
  repeat (any_goals (first | assumption | wp_step))
  refine codeAny_mono (code_set_new_1 (.ref tp) (E := E) (Q₁ := fun obj s₁ => ∃ led : Bool, obj = .ref s.heap.objs.size ∧ s₁ = { s with heap := s.heap.push { cls := .type "set", dict := none, data := .set #[] 0 (.fresh 0 0 led) } }) fun led => ⟨led, rfl, rfl⟩) fun r s₁ hr => ?_
  cases r with
  | error e => exact hr
  | ok fl =>
    cases fl with
    | ret obj =>
      obtain ⟨led, rfl, rfl⟩ := hr
      have hS : (s.heap.push { cls := .type "set", dict := none, data := .set #[] 0 (.fresh 0 0 led) }).get? s.heap.objs.size = some { cls := .type "set", dict := none, data := .set #[] 0 (.fresh 0 0 led) } := Heap.get?_push_size _ rfl
      have hT : Shared.TypeIs { s with heap := s.heap.push { cls := .type "set", dict := none, data := .set #[] 0 (.fresh 0 0 led) } } (.ref s.heap.objs.size) "set" := ⟨_, hS, rfl⟩
      have hli := F.called_set.init.lookup
      have hbi := F.called_set.init.bind (.ref s.heap.objs.size)
      repeat (any_goals (first | assumption | wp_step))
      refine codeAny_mono (codeAny_call_builtin (R := wants (fun r s₂ => r = .none ∧ ∃ h' tk, s₂ = { s with heap := h', toks := tk } ∧ (∀ c ∈ cs, c.hashable = true) ∧
          (∀ b o, s.heap.get? b = some o → h'.get? b = some o) ∧ SetIs prog w h' s.heap.objs.size (cs.foldl Cnt.add .zero) 4) E) F.called_set.init.plain F.entry_set_init (check_set_init_1 hT ?_)) fun r₂ s₂ hr₂ => ?_
      · have htp' := htp
        obtain ⟨ol, hol, hcl, nl, hdl⟩ := htp
        obtain ⟨ocls, odict, odata, oslots⟩ := ol
        simp only at hcl hdl
        subst hcl; subst hdl
        have hol' : (s.heap.push { cls := .type "set", dict := none, data := .set #[] 0 (.fresh 0 0 led) }).get? tp = some { cls := .type "tuple", dict := odict, data := .seq vs.toArray nl, slots := oslots } := Heap.get?_push_of_some _ hol
        have hsls := sub_tuple_set
        have hslf := sub_tuple_frozenset
        have hne : (Value.type "tuple" == Value.type "dict") = false := by decide
        have hl1 : (s.heap.push { cls := .type "set", dict := none, data := .set #[] 0 (.fresh 0 0 led) }).IsTuple tp vs.toArray := ⟨_, hol', rfl, nl, rfl⟩
        unfold Builtin.«set.__init__» noKeywords Builtin.Frozenset.updateFrom
        generalize hPI : pyIter = PI
        wp_walk
        subst hPI
        refine wpAny_pyIter_tuple hl1 ?_
        refine wpAny_bind (wpAny_runValue ?_)
        have hlS : tp < s.heap.objs.size := Heap.lt_size hol
        have hh3 : A.in1.in1.handled = none := by simp [hh]
        have hsz : (s.heap.push { cls := .type "set", dict := none, data := .set #[] 0 (.fresh 0 0 led) }).objs.size = s.heap.objs.size + 1 := Heap.size_push ..
        have k0 : ∀ b o, s.heap.get? b = some o → (s.heap.push { cls := .type "set", dict := none, data := .set #[] 0 (.fresh 0 0 led) }).get? b = some o := fun b o e => Heap.get?_push_of_some _ e
        have old : ∀ {b o}, s.heap.get? b = some o → b ≠ s.heap.objs.size ∧ b ≠ (s.heap.push { cls := .type "set", dict := none, data := .set #[] 0 (.fresh 0 0 led) }).objs.size := fun e => by
          have := Heap.lt_size e
          rw [hsz]; exact ⟨Nat.ne_of_lt this, Nat.ne_of_lt (Nat.lt_succ_of_lt this)⟩
        refine set_loop (A := A.in1.in1) (s₀ := s) (cs := cs) (vs := vs) (tp := tp) (by show A.units + 1 + 1 + 12 < cLine; omega) hh3 ?n1 ?n2 ?n3 hlen ?hok ?hbad
          (cs.length - 0) 0 _ _ (by omega) (Nat.zero_le _) (by simp) ?hit (hl1.push _) (hpv.map fun v c x => (x.keeps k0).keeps fun b o e => Heap.get?_push_of_some _ e)
          ((set_fresh s.heap led).keeps fun b o e => Heap.get?_push_of_some _ e) (fun b o _ _ e => Heap.get?_push_of_some _ (k0 b o e))
        case n1 => rw [hsz]; exact Nat.ne_of_lt (Nat.lt_succ_self _)
        case n2 => exact Nat.ne_of_lt hlS
        case n3 => rw [hsz]; exact Nat.ne_of_lt (Nat.lt_succ_of_lt hlS)
        case hit => exact ⟨_, Heap.get?_push_size _ rfl, rfl, rfl⟩
        case hok =>
          intro h' tk hall hk hS'
          show wpAny _ _ _ _ _ _
          refine wpAny_pure ?_
          show wpAny _ _ (ret Value.none) _ _ _
          exact wpAny_pure ⟨rfl, h', tk, rfl, hall, fun b o e => hk b o (old e).1 (old e).2 e, hS'⟩
        case hbad =>
          intro h' h'' tk e hex hk x
          refine hbad h'' tk e hex ⟨fun b o q => x.keeps b o (hk b o (old q).1 (old q).2 q), ?_, x.there⟩
          cases q : s.heap.get? e with
          | none => rfl
          | some o => have := hk e o (old q).1 (old q).2 q; rw [x.new] at this; cases this
      · cases r₂ with
        | error e => exact hr₂
        | ok fl₂ =>
          cases fl₂ with
          | ret r =>
            obtain ⟨rfl, h', tk, rfl, hall, hk', hS'⟩ := hr₂
            repeat (any_goals (first | assumption | wp_step))
            exact hok _ _ _ hall hk' (Heap.get?_none_of_le (Nat.le_refl _)) hS'
          | _ => exact hr₂.elim
    | _ => exact hr.elim

/-- len of the set: is it one? -/
theorem call_len_setIs {S : Addr} {k : Cnt} (X : SetIs prog w s.heap S k 4) {Q : Value → Shared → Prop}
    (h : ∀ n t tk, (match k with | .zero => n = 0 | .one _ => n = 1 | .many => 2 ≤ n) → n ≤ 4 → Q (.int (n : Nat) t) { s with toks := tk }) :
    wpAny (model prog w) A (call (.builtin "len") [.ref S]) Q E s := by
  obtain ⟨es, t, SA, C, hs⟩ := X
  obtain ⟨o, ep, ho, hex, hd⟩ := SA.ob
  refine call_len_set ho hex hd (SA.small.fits hs) (by omega) (h es.size _ _ ?_ hs)
  cases k with
  | zero => exact C
  | one d => obtain ⟨v, e, _⟩ := C; rw [e]; rfl
  | many => exact C

/-- all equal, as the set sees it -/
theorem cnt_fold : ∀ (cs : List Cont) (k : Cnt), cs.foldl Cnt.add k = match k with
    | .zero => (match cs with | [] => .zero | c :: r => if r.all (fun d => decide (c = d)) then .one c else .many)
    | .one c => if cs.all (fun d => decide (c = d)) then .one c else .many
    | .many => .many
  | [], k => by cases k <;> simp
  | c :: r, k => by
    cases k with
    | zero => rw [List.foldl_cons, show Cnt.zero.add c = .one c from rfl, cnt_fold r]
    | one d =>
      rw [List.foldl_cons]
      by_cases h : d = c
      · rw [show (Cnt.one d).add c = .one d by simp [Cnt.add, h], cnt_fold r]; simp [h]
      · rw [Cnt.add_other h, cnt_fold r]; simp [h]
    | many => rw [List.foldl_cons, show Cnt.many.add c = .many from rfl, cnt_fold r]
end
end Mine

namespace Mine
theorem entry_unchain : entryFor table "proto.unchain" = some Builtin.«proto.unchain» := entryFor_of_tree (by kernel_rfl)
theorem plain_unchain : plainId "proto.unchain" = true := by decide +kernel

/-- what is being handled, if anything, is an exception with no context -/
def HandledOk (A : Around) (h : Heap) : Prop := ∀ v, A.handled = some v → ∃ e o vs, v = .ref e ∧ h.get? e = some o ∧ o.data = .fields vs ∧ vs[2]? = some .none

theorem HandledOk.keeps {A : Around} {h h' : Heap} (x : HandledOk A h) (k : ∀ b o, (∃ vs, o.data = .fields vs) → h.get? b = some o → o.cls ≠ .type "tuple_iterator" → h'.get? b = some o) (hn : ∀ v, A.handled = some v → ∀ e o, v = .ref e → h.get? e = some o → o.cls ≠ .type "tuple_iterator") : HandledOk A h' := fun v hv => by
  obtain ⟨e, o, vs, rfl, ho, hd, h2⟩ := x v hv
  exact ⟨e, o, vs, rfl, k e o ⟨vs, hd⟩ ho (hn _ hv e o rfl ho), hd, h2⟩

theorem HandledOk.same {A : Around} {h h' : Heap} (x : HandledOk A h) (k : ∀ e, A.handled = some (.ref e) → ∀ o, h.get? e = some o → h'.get? e = some o) : HandledOk A h' := fun v hv => by
  obtain ⟨e, o, vs, rfl, ho, hd, h2⟩ := x v hv
  exact ⟨e, o, vs, rfl, k e hv o ho, hd, h2⟩

section
variable {prog : Program} {w : World} {A : Around} {E : Value → Shared → Prop} {s : Shared}

theorem stop_raise {α : Type} {Q : α → Shared → Prop} (H : HandledOk A s.heap)
    (hE : ∀ h' e, (∀ b o, s.heap.get? b = some o → h'.get? b = some o) → (∃ o, h'.get? e = some o ∧ o.cls = .type "StopIteration") → E (.ref e) { s with heap := h' }) :
    wpAny (model prog w) A (newExc (.type "StopIteration") [] >>= raiseNew : Sem α) Q E s := by
  refine wpAny_bind ?_
  simp only [newExc, newTuple]
  refine wpAny_bind (wpAny_newObj_type ?_ (by size_fits))
  refine wpAny_bind (m := firstArgMember _ _) (wpAny_of_eq (a := Value.none) (by first | rfl | (simp only [firstArgMember]; rfl)) ?_)
  refine wpAny_newObj_type ?_ (by size_fits)
  have k1 : ∀ b o, s.heap.get? b = some o → ((s.heap.push { cls := .type "tuple", data := .seq ([] : List Value).toArray }).push { cls := .type "StopIteration", data := .fields (#[.ref s.heap.objs.size, .none, .none, .none, .bool false, .none] ++ ownMembersOf (.type "StopIteration") []) }).get? b = some o := fun b o e => Heap.get?_push_of_some _ (Heap.get?_push_of_some _ e)
  generalize hE1 : ((s.heap.push { cls := .type "tuple", data := .seq ([] : List Value).toArray }).push { cls := .type "StopIteration", data := .fields (#[.ref s.heap.objs.size, .none, .none, .none, .bool false, .none] ++ ownMembersOf (.type "StopIteration") []) }) = H1 at k1 ⊢
  have hx : H1.get? (s.heap.push { cls := .type "tuple", data := .seq ([] : List Value).toArray }).objs.size = some { cls := .type "StopIteration", data := .fields (#[.ref s.heap.objs.size, .none, .none, .none, .bool false, .none] ++ ownMembersOf (.type "StopIteration") []) } := by rw [← hE1]; exact Heap.get?_push_size _ rfl
  have hxs : s.heap.objs.size < (s.heap.push { cls := .type "tuple", data := .seq ([] : List Value).toArray }).objs.size := by rw [Heap.size_push]; exact Nat.lt_succ_self _
  generalize (s.heap.push { cls := .type "tuple", data := .seq ([] : List Value).toArray }).objs.size = X at hx hxs ⊢
  unfold raiseNew
  refine wpAny_bind (wpAny_handled ?_)
  cases hA : A.handled with
  | none =>
    refine wpAny_bind (wpAny_pure (wpAny_throw ?_))
    exact hE _ _ k1 ⟨_, hx, rfl⟩
  | some v =>
    obtain ⟨e, o, vs, rfl, ho, hd, h2⟩ := H v hA
    have hne : e ≠ X := fun q => by have := Heap.lt_size ho; rw [q] at this; exact Nat.lt_asymm this hxs
    dsimp only
    rw [if_pos (by simpa using hne)]
    refine wpAny_bind (wpAny_holding (wpAny_runValue (codeAny_builtin entry_unchain ?_)))
    rw [Around.under_plainId plain_unchain _]
    show wpAny _ _ (field (.ref e) 2 >>= _) _ _ _
    refine wpAny_bind (wpAny_field (k1 _ _ ho) hd h2 ?_)
    dsimp only
    rw [if_pos (by decide)]
    refine wpAny_pure ?_
    show wpAny _ _ (updateField X 2 (.ref e) >>= _) _ _ _
    unfold updateField
    refine wpAny_bind (wpAny_bind (wpAny_load hx ?_))
    dsimp only
    rw [if_pos (by simp; omega)]
    refine wpAny_update hx (wpAny_throw ?_)
    refine hE _ _ (fun b o q => (Heap.get?_update_other _ _ (fun r : X = b => ?_)).trans (k1 b o q)) ⟨_, Heap.get?_update_self _ hx rfl, rfl⟩
    have := Heap.lt_size q
    rw [← r] at this
    exact Nat.lt_asymm this hxs


theorem HandledOk.but {h h' : Heap} {a : Addr} (x : HandledOk A h) (ha : ∀ o, h.get? a = some o → (∀ vs, o.data = .fields vs → vs[2]? = none)) (k : ∀ b o, b ≠ a → h.get? b = some o → h'.get? b = some o) : HandledOk A h' := fun v hv => by
  obtain ⟨e, o, vs, rfl, ho, hd, h2⟩ := x v hv
  refine ⟨e, o, vs, rfl, k e o (fun q => ?_) ho, hd, h2⟩
  subst q
  have := ha o ho vs hd
  rw [h2] at this; cases this
theorem HandledOk.grow {h h' : Heap} (x : HandledOk A h) (k : ∀ b o, h.get? b = some o → h'.get? b = some o) : HandledOk A h' := x.same fun _ _ _ q => k _ _ q

theorem iter_two {h : Heap} {it t : Addr} {i : Nat} (x : h.IsTupleIter it t i) : ∀ o, h.get? it = some o → ∀ vs, o.data = .fields vs → vs[2]? = none := fun o e vs hd => by
  obtain ⟨o', ho, _, hd'⟩ := x
  rw [ho] at e; cases e
  rw [hd'] at hd; cases hd; rfl

/-- a tuple's iterator draws an item, or stops, whatever is being handled -/
theorem nextOf_item {it t : Addr} {i : Nat} {items : Array Value} {x : Value} {Q : Value → Shared → Prop} (hit : s.heap.IsTupleIter it t i) (ht : s.heap.IsTuple t items) (hx : items[i]? = some x)
    (hQ : ∀ h', h'.IsTupleIter it t (i + 1) → Heap.SameBut it s.heap h' → Q x { s with heap := h' }) : wpAny (model prog w) A (Builtin.SmallTypes.nextOf (.ref it)) Q E s := by
  obtain ⟨o, ho, hc, hd⟩ := id hit
  obtain ⟨ol, hol, _, nl, hdl⟩ := ht
  unfold Builtin.SmallTypes.nextOf
  refine wpAny_bind (wpAny_callSpecial?_slot (name := Str.ofString "__next__") hit.typeIs F.slot_tuple_iterator_next
    (wpAny_call_entry F.slot_tuple_iterator_next hit.typeIs F.entry_tuple_iterator_next ?_ (F.args_tuple_iterator_next_1 _)))
  show wpAny _ _ (field (.ref it) 0 >>= _) _ _ s
  refine wpAny_bind (wpAny_field ho hd (x := .ref t) rfl ?_)
  show wpAny _ _ (if (Value.ref t == Value.none) = true then _ else _) _ _ s
  rw [if_neg (show ¬ ((Value.ref t == Value.none) = true) from Bool.false_ne_true)]
  show wpAny _ _ (field (.ref it) 1 >>= _) _ _ s
  refine wpAny_bind (wpAny_field ho hd (x := .int i 0) rfl ?_)
  show wpAny _ _ (seqItems? (.ref t) >>= _) _ _ s
  refine wpAny_bind (wpAny_seqItems hol hdl ?_)
  simp only [Int.toNat_natCast, hx]
  refine wpAny_bind (wpAny_setField ho hd (by simp) (wpAny_pure ⟨x, rfl, wpAny_pure (hQ _ ?_ (Heap.SameBut.update ..))⟩))
  exact ⟨_, Heap.get?_update_self _ ho (Obj.isFreed_of_fields (Obj.data_mapFields hd _)), (Obj.cls_mapFields ..).trans hc, by rw [Obj.data_mapFields hd]; simp [rawInt]⟩

theorem next_stops {it t : Addr} {i : Nat} {items : Array Value} {Q : Option Value → Shared → Prop} (H : HandledOk A s.heap) (hit : s.heap.IsTupleIter it t i) (ht : s.heap.IsTuple t items) (hx : items[i]? = none)
    (hE : ∀ h' e, (∀ b o, b ≠ it → s.heap.get? b = some o → h'.get? b = some o) → (∃ o, h'.get? e = some o ∧ o.cls = .type "StopIteration") → E (.ref e) { s with heap := h' }) :
    wpAny (model prog w) A (callSpecial? (.ref it) "__next__") Q E s := by
  obtain ⟨o, ho, hc, hd⟩ := id hit
  obtain ⟨ol, hol, _, nl, hdl⟩ := ht
  refine wpAny_callSpecial?_slot (name := Str.ofString "__next__") hit.typeIs F.slot_tuple_iterator_next
    (wpAny_call_entry F.slot_tuple_iterator_next hit.typeIs F.entry_tuple_iterator_next ?_ (F.args_tuple_iterator_next_1 _))
  show wpAny _ _ (field (.ref it) 0 >>= _) _ _ s
  refine wpAny_bind (wpAny_field ho hd (x := .ref t) rfl ?_)
  show wpAny _ _ (if (Value.ref t == Value.none) = true then _ else _) _ _ s
  rw [if_neg (show ¬ ((Value.ref t == Value.none) = true) from Bool.false_ne_true)]
  show wpAny _ _ (field (.ref it) 1 >>= _) _ _ s
  refine wpAny_bind (wpAny_field ho hd (x := .int i 0) rfl ?_)
  show wpAny _ _ (seqItems? (.ref t) >>= _) _ _ s
  refine wpAny_bind (wpAny_seqItems hol hdl ?_)
  simp only [Int.toNat_natCast, hx]
  refine wpAny_bind (wpAny_rule (wpAny_bind (wpAny_setField ho hd (by simp) ?_)))
  have hsb := Heap.SameBut.update s.heap it (Obj.mapFields (·.setIfInBounds 0 Value.none))
  have H' : HandledOk A (s.heap.update it (Obj.mapFields (·.setIfInBounds 0 Value.none))) := H.but (a := it) (iter_two hit) fun b o hb q => (hsb.2 b hb).trans q
  exact stop_raise H' fun h' e k he => hE h' e (fun b o hb q => k b o ((hsb.2 b hb).trans q)) he
end
end Mine

namespace Mine
section
variable {prog : Program} {w : World} {A : Around} {E : Value → Shared → Prop} {s : Shared}

theorem pyNext_stops {it t : Addr} {i : Nat} {items : Array Value} {Q : Option Value → Shared → Prop} (H : HandledOk A s.heap) (hit : s.heap.IsTupleIter it t i) (ht : s.heap.IsTuple t items) (hx : items[i]? = none)
    (hQ : ∀ h', (∀ b o, b ≠ it → s.heap.get? b = some o → h'.get? b = some o) → Q none { s with heap := h' }) : wpAny (model prog w) A (pyNext (.ref it)) Q E s := by
  unfold pyNext
  refine wpAny_bind (wpAny_attempt (next_stops H hit ht hx fun h' e k he => ?_))
  obtain ⟨o, ho, hc⟩ := he
  refine wpAny_bind (wpAny_isInstance (T := "StopIteration") (b := true) ⟨o, ho, hc⟩ isSubtype_stop ?_)
  exact wpAny_pure (hQ _ k)

theorem nextOf_stops {it t : Addr} {i : Nat} {items : Array Value} {Q : Value → Shared → Prop} (H : HandledOk A s.heap) (hit : s.heap.IsTupleIter it t i) (ht : s.heap.IsTuple t items) (hx : items[i]? = none)
    (hE : ∀ h' e, (∀ b o, b ≠ it → s.heap.get? b = some o → h'.get? b = some o) → (∃ o, h'.get? e = some o ∧ o.cls = .type "StopIteration") → E (.ref e) { s with heap := h' }) :
    wpAny (model prog w) A (Builtin.SmallTypes.nextOf (.ref it)) Q E s := by
  unfold Builtin.SmallTypes.nextOf
  exact wpAny_bind (next_stops H hit ht hx hE)

/-- a pair is unpacked into two names, whatever is being handled -/
theorem unpack_pair {t : Addr} {x y : Value} {f g : Value → Sem Unit} {Q : Unit → Shared → Prop} (H : HandledOk A s.heap) (ht : s.heap.IsTuple t #[x, y])
    (h : ∀ h', (∀ b o, s.heap.get? b = some o → h'.get? b = some o) → wpAny (model prog w) A (assignInOrder [f, g] [x, y]) Q E { s with heap := h' }) :
    wpAny (model prog w) A (unpack (.ref t) [(false, f), (false, g)]) Q E s := by
  have hlt : t ≠ s.heap.objs.size := by obtain ⟨o, ho, _⟩ := ht; exact Nat.ne_of_lt (Heap.lt_size ho)
  unfold unpack
  refine wpAny_bind (wpAny_holding ?_)
  show wpAny _ _ (unpackItems (.ref t) 2 none) _ _ _
  unfold unpackItems
  refine wpAny_bind ?_
  unfold notIterableAtAll
  refine wpAny_bind (wpAny_specialOf ht.typeIs F.slot_tuple_iter.lookup ?_)
  refine wpAny_pure ?_
  simp only [Bool.false_eq_true, if_false]
  refine wpAny_bind (wpAny_holding (wpAny_pyIter_tuple ht ?_))
  refine wpAny_bind (wpAny_holding (wpAny_draw_tuple hlt 2 0 _ _ ⟨_, Heap.get?_push_size _ rfl, rfl, rfl⟩ (ht.push _) (Nat.le_refl 2) fun h₁ hit₁ hs₁ => ?_))
  rw [show List.take 2 (List.drop 0 (#[x, y] : Array Value).toList) = [x, y] from rfl]
  rw [if_neg (by simp)]
  have ht₁ : h₁.IsTuple t #[x, y] := (ht.push _).extBut hs₁.extBut hlt
  have old : ∀ b o, s.heap.get? b = some o → h₁.get? b = some o := fun b o e => hs₁.extBut b o (Nat.ne_of_lt (Heap.lt_size e)) (Heap.get?_push_of_some _ e)
  refine wpAny_bind (wpAny_holding (pyNext_stops (s := { s with heap := h₁ }) (H.grow old) hit₁ ht₁ (by rfl) fun h₂ k₂ => ?_))
  simp only [Option.isSome_none, Bool.false_eq_true, if_false]
  exact wpAny_pure (h h₂ fun b o e => k₂ b o (Nat.ne_of_lt (Heap.lt_size e)) (old b o e))

/-- zip of two tuples draws a pair -/
theorem zipT_item {z TI TO i1 i2 l1 l2 : Addr} {k1 k2 : Nat} {xs ys : Array Value} {x y a b : Value} {Q : Value → Shared → Prop} (D : ZipApart z TI TO i1 i2 l1 l2)
    (hz : IsZip s.heap z TI TO .none) (hTI : IsPair s.heap TI (.ref i1) (.ref i2)) (hTO : IsPair s.heap TO a b)
    (h1 : s.heap.IsTupleIter i1 l1 k1) (h2 : s.heap.IsTupleIter i2 l2 k2) (hl1 : s.heap.IsTuple l1 xs) (hl2 : s.heap.IsTuple l2 ys) (hx : xs[k1]? = some x) (hy : ys[k2]? = some y)
    (hQ : ∀ (h' : Heap) (T : Addr), IsZip h' z TI TO (rawInt T) → IsPair h' TO x y → h'.IsTupleIter i1 l1 (k1 + 1) → h'.IsTupleIter i2 l2 (k2 + 1) → h'.IsTuple T #[x, y] → T ≠ z → T ≠ TO → T ≠ i1 → T ≠ i2 →
      (∀ c o, c ≠ z → c ≠ TO → c ≠ i1 → c ≠ i2 → s.heap.get? c = some o → h'.get? c = some o) → Q (.ref T) { s with heap := h' }) :
    wpAny (model prog w) A (Builtin.«zip.__next__» ⟨[.ref z], []⟩) (fun fin s' => ∃ v, fin = .done (.ret v) ∧ Q v s') E s := by
  show wpAny _ _ (field (.ref z) 2 >>= _) _ _ _
  refine wpAny_bind (wpAny_field hz rfl (x := .bool false) rfl ?_)
  show wpAny _ _ (field (.ref z) 3 >>= _) _ _ _
  refine wpAny_bind (wpAny_field hz rfl (x := .ref TI) rfl ?_)
  refine wpAny_bind (wpAny_seqItems hTI rfl ?_)
  show wpAny _ _ (Builtin.SmallTypes.ownedTupleIsFree (.ref z) >>= _) _ _ _
  refine wpAny_bind ?_
  unfold Builtin.SmallTypes.ownedTupleIsFree
  refine wpAny_bind (wpAny_field hz rfl (x := .none) rfl (wpAny_pure ?_))
  simp only [if_true]
  refine wpAny_bind (wpAny_rule ?_)
  refine wpAny_bind (wpAny_field hz rfl (x := .ref TO) rfl ?_)
  refine wpAny_bind (wpAny_setField_rec hz (by simp) fun g₁ hz₁ hs₁ => ?_)
  replace hz₁ : IsZip g₁ z TI TO .ellipsis := hz₁
  refine wpAny_bind ?_
  simp only [List.zipIdx_cons, List.zipIdx_nil, List.forIn_cons, List.forIn_nil]
  -- the first
  refine wpAny_bind (wpAny_bind (wpAny_onRaise ?_))
  show wpAny _ _ (Builtin.SmallTypes.nextOf (.ref i1) >>= _) _ _ _
  refine wpAny_bind (nextOf_item (s := { s with heap := g₁ }) (h1.extBut hs₁.extBut D.i1z) (hl1.extBut hs₁.extBut D.l1z) hx fun g₂ h1₂ hs₂ => wpAny_pure ?_)
  have hTO₂ : IsPair g₂ TO a b := hs₂.extBut _ _ D.TOi1 (hs₁.extBut _ _ D.TOz hTO)
  refine wpAny_bind (wpAny_seqItems hTO₂ rfl ?_)
  refine wpAny_bind (wpAny_updateSeq_pair hTO₂ fun g₃ hTO₃ hs₃ => ?_)
  replace hTO₃ : IsPair g₃ TO x b := hTO₃
  refine wpAny_bind (wpAny_letGo (wpAny_pure ?_))
  -- the second
  refine wpAny_bind (wpAny_bind (wpAny_onRaise ?_))
  show wpAny _ _ (Builtin.SmallTypes.nextOf (.ref i2) >>= _) _ _ _
  refine wpAny_bind (nextOf_item (s := { s with heap := g₃ }) (((h2.extBut hs₁.extBut D.i2z).extBut hs₂.extBut D.i12.symm).extBut hs₃.extBut D.TOi2.symm)
    (((hl2.extBut hs₁.extBut D.l2z).extBut hs₂.extBut D.l2i1).extBut hs₃.extBut D.l2TO) hy fun g₄ h2₄ hs₄ => wpAny_pure ?_)
  have hTO₄ : IsPair g₄ TO x b := hs₄.extBut _ _ D.TOi2 hTO₃
  refine wpAny_bind (wpAny_seqItems hTO₄ rfl ?_)
  refine wpAny_bind (wpAny_updateSeq_pair hTO₄ fun g₅ hTO₅ hs₅ => ?_)
  replace hTO₅ : IsPair g₅ TO x y := hTO₅
  refine wpAny_bind (wpAny_letGo (wpAny_pure (wpAny_pure ?_)))
  -- the tuple
  refine wpAny_bind (wpAny_seqItems hTO₅ rfl ?_)
  refine wpAny_bind (wpAny_newTuple ?_)
  have hz₅ : IsZip g₅ z TI TO .ellipsis := hs₅.extBut _ _ D.TOz.symm (hs₄.extBut _ _ D.i2z.symm (hs₃.extBut _ _ D.TOz.symm (hs₂.extBut _ _ D.i1z.symm hz₁)))
  have hk₅ : ∀ c o, c ≠ z → c ≠ TO → c ≠ i1 → c ≠ i2 → s.heap.get? c = some o → g₅.get? c = some o := fun c o c1 c2 c3 c4 e =>
    hs₅.extBut _ _ c2 (hs₄.extBut _ _ c4 (hs₃.extBut _ _ c2 (hs₂.extBut _ _ c3 (hs₁.extBut _ _ c1 e))))
  have h1₅ : g₅.IsTupleIter i1 l1 (k1 + 1) := ((h1₂.extBut hs₃.extBut D.TOi1.symm).extBut hs₄.extBut D.i12).extBut hs₅.extBut D.TOi1.symm
  have h2₅ : g₅.IsTupleIter i2 l2 (k2 + 1) := h2₄.extBut hs₅.extBut D.TOi2.symm
  have hzlt : z < g₅.objs.size := Heap.lt_size hz₅
  have hTOlt : TO < g₅.objs.size := Heap.lt_size hTO₅
  have hi1lt : i1 < g₅.objs.size := by obtain ⟨_, e, _⟩ := h1₅; exact Heap.lt_size e
  have hi2lt : i2 < g₅.objs.size := by obtain ⟨_, e, _⟩ := h2₅; exact Heap.lt_size e
  show wpAny _ _ (Builtin.SmallTypes.ownedTupleHandOut (.ref z) (.ref g₅.objs.size) >>= _) _ _ _
  refine wpAny_bind ?_
  unfold Builtin.SmallTypes.ownedTupleHandOut
  have hz₆ : IsZip (g₅.push { cls := .type "tuple", data := .seq #[x, y] }) z TI TO .ellipsis := Heap.get?_push_of_some _ hz₅
  refine wpAny_bind (wpAny_setField_rec hz₆ (by simp) fun g₇ hz₇ hs₇ => ?_)
  replace hz₇ : IsZip g₇ z TI TO (rawInt g₅.objs.size) := hz₇
  refine wpAny_setField_rec hz₇ (by simp) fun g₈ hz₈ hs₈ => ?_
  replace hz₈ : IsZip g₈ z TI TO (rawInt g₅.objs.size) := hz₈
  have up : ∀ c o, c ≠ z → g₅.get? c = some o → g₈.get? c = some o := fun c o c1 e => hs₈.extBut _ _ c1 (hs₇.extBut _ _ c1 (Heap.get?_push_of_some _ e))
  have hT₈ : IsPair g₈ g₅.objs.size x y := hs₈.extBut _ _ (Nat.ne_of_gt hzlt) (hs₇.extBut _ _ (Nat.ne_of_gt hzlt) (Heap.get?_push_size _ rfl))
  refine wpAny_pure ⟨_, rfl, ?_⟩
  have at1 : g₈.IsTupleIter i1 l1 (k1 + 1) := by obtain ⟨o, q, r⟩ := h1₅; exact ⟨o, up _ _ D.i1z q, r⟩
  have at2 : g₈.IsTupleIter i2 l2 (k2 + 1) := by obtain ⟨o, q, r⟩ := h2₅; exact ⟨o, up _ _ D.i2z q, r⟩
  exact hQ g₈ g₅.objs.size hz₈ (up _ _ D.TOz hTO₅) at1 at2 ⟨_, hT₈, rfl, _, rfl⟩ (Nat.ne_of_gt hzlt) (Nat.ne_of_gt hTOlt) (Nat.ne_of_gt hi1lt) (Nat.ne_of_gt hi2lt) fun c o c1 c2 c3 c4 e => up c o c1 (hk₅ c o c1 c2 c3 c4 e)

/-- the second tuple is the shorter one: zip stops there, with a first item drawn, or at the first -/
theorem zipT_stops {z TI TO i1 i2 l1 l2 : Addr} {k1 k2 : Nat} {xs ys : Array Value} {a b : Value} {Q : Fin → Shared → Prop} (H : HandledOk A s.heap) (D : ZipApart z TI TO i1 i2 l1 l2)
    (hz : IsZip s.heap z TI TO .none) (hTI : IsPair s.heap TI (.ref i1) (.ref i2)) (hTO : IsPair s.heap TO a b)
    (h1 : s.heap.IsTupleIter i1 l1 k1) (h2 : s.heap.IsTupleIter i2 l2 k2) (hl1 : s.heap.IsTuple l1 xs) (hl2 : s.heap.IsTuple l2 ys) (hend : xs[k1]? = none ∨ ys[k2]? = none)
    (hE : ∀ h' e, (∀ c o, c ≠ z → c ≠ TO → c ≠ i1 → c ≠ i2 → s.heap.get? c = some o → h'.get? c = some o) → (∃ o, h'.get? e = some o ∧ o.cls = .type "StopIteration") → E (.ref e) { s with heap := h' }) :
    wpAny (model prog w) A (Builtin.«zip.__next__» ⟨[.ref z], []⟩) Q E s := by
  show wpAny _ _ (field (.ref z) 2 >>= _) _ _ _
  refine wpAny_bind (wpAny_field hz rfl (x := .bool false) rfl ?_)
  show wpAny _ _ (field (.ref z) 3 >>= _) _ _ _
  refine wpAny_bind (wpAny_field hz rfl (x := .ref TI) rfl ?_)
  refine wpAny_bind (wpAny_seqItems hTI rfl ?_)
  show wpAny _ _ (Builtin.SmallTypes.ownedTupleIsFree (.ref z) >>= _) _ _ _
  refine wpAny_bind ?_
  unfold Builtin.SmallTypes.ownedTupleIsFree
  refine wpAny_bind (wpAny_field hz rfl (x := .none) rfl (wpAny_pure ?_))
  simp only [if_true]
  refine wpAny_bind (wpAny_rule ?_)
  refine wpAny_bind (wpAny_field hz rfl (x := .ref TO) rfl ?_)
  refine wpAny_bind (wpAny_setField_rec hz (by simp) fun g₁ hz₁ hs₁ => ?_)
  replace hz₁ : IsZip g₁ z TI TO .ellipsis := hz₁
  have zf : ∀ {g : Heap} {TI TO : Addr} {f : Value}, IsZip g z TI TO f → ∀ o, g.get? z = some o → ∀ vs, o.data = .fields vs → vs[2]? = none ∨ vs[2]? = some (.bool false) := fun hzz o q vs hd => by
    rw [hzz] at q; cases q; cases hd; exact .inr rfl
  have H₁ : HandledOk A g₁ := H.same fun e hv o q => by
    by_cases hb : e = z
    · subst hb
      obtain ⟨e', o', vs, q1, q2, q3, q4⟩ := H _ hv
      cases q1
      rw [hz] at q2; cases q2; cases q3; simp at q4
    · exact hs₁.extBut _ _ hb q
  refine wpAny_bind ?_
  simp only [List.zipIdx_cons, List.zipIdx_nil, List.forIn_cons, List.forIn_nil]
  refine wpAny_bind (wpAny_bind (wpAny_onRaise ?_))
  show wpAny _ _ (Builtin.SmallTypes.nextOf (.ref i1) >>= _) _ _ _
  cases hx : xs[k1]? with
  | none =>
    refine wpAny_bind (nextOf_stops (s := { s with heap := g₁ }) H₁ (h1.extBut hs₁.extBut D.i1z) (hl1.extBut hs₁.extBut D.l1z) hx fun g₂ e hs₂ he => ?_)
    obtain ⟨oe, hoe, hce⟩ := he
    have hz₂ : IsZip g₂ z TI TO .ellipsis := hs₂ _ _ D.i1z.symm hz₁
    have hez : e ≠ z := fun q => by subst q; rw [hz₂] at hoe; cases hoe; simp at hce
    exact wpAny_setField_rec hz₂ (by simp) fun g₃ _ hs₃ => hE g₃ e (fun c o c1 _ c3 _ q => hs₃.extBut _ _ c1 (hs₂ _ _ c3 (hs₁.extBut _ _ c1 q))) ⟨oe, hs₃.extBut _ _ hez hoe, hce⟩
  | some x =>
    have hy : ys[k2]? = none := by rcases hend with q | q; rw [hx] at q; cases q; exact q
    refine wpAny_bind (nextOf_item (s := { s with heap := g₁ }) (h1.extBut hs₁.extBut D.i1z) (hl1.extBut hs₁.extBut D.l1z) hx fun g₂ h1₂ hs₂ => wpAny_pure ?_)
    have H₂ : HandledOk A g₂ := H₁.but (a := i1) (iter_two (h1.extBut hs₁.extBut D.i1z)) fun b o hb q => hs₂.extBut _ _ hb q
    have hTO₂ : IsPair g₂ TO a b := hs₂.extBut _ _ D.TOi1 (hs₁.extBut _ _ D.TOz hTO)
    refine wpAny_bind (wpAny_seqItems hTO₂ rfl ?_)
    refine wpAny_bind (wpAny_updateSeq_pair hTO₂ fun g₃ hTO₃ hs₃ => ?_)
    have H₃ : HandledOk A g₃ := H₂.but (a := TO) (fun o q vs hd => by rw [hTO₂] at q; cases q; cases hd) fun b o hb q => hs₃.extBut _ _ hb q
    refine wpAny_bind (wpAny_letGo (wpAny_pure ?_))
    refine wpAny_bind (wpAny_bind (wpAny_onRaise ?_))
    show wpAny _ _ (Builtin.SmallTypes.nextOf (.ref i2) >>= _) _ _ _
    refine wpAny_bind (nextOf_stops (s := { s with heap := g₃ }) H₃ (((h2.extBut hs₁.extBut D.i2z).extBut hs₂.extBut D.i12.symm).extBut hs₃.extBut D.TOi2.symm)
      (((hl2.extBut hs₁.extBut D.l2z).extBut hs₂.extBut D.l2i1).extBut hs₃.extBut D.l2TO) hy fun g₄ e hs₄ he => ?_)
    obtain ⟨oe, hoe, hce⟩ := he
    have hz₄ : IsZip g₄ z TI TO .ellipsis := hs₄ _ _ D.i2z.symm (hs₃.extBut _ _ D.TOz.symm (hs₂.extBut _ _ D.i1z.symm hz₁))
    have hez : e ≠ z := fun q => by subst q; rw [hz₄] at hoe; cases hoe; simp at hce
    exact wpAny_setField_rec hz₄ (by simp) fun g₅ _ hs₅ => hE g₅ e (fun c o c1 c2 c3 c4 q => hs₅.extBut _ _ c1 (hs₄ _ _ c4 (hs₃.extBut _ _ c2 (hs₂.extBut _ _ c3 (hs₁.extBut _ _ c1 q))))) ⟨oe, hs₅.extBut _ _ hez hoe, hce⟩
end
end Mine

namespace Mine
section
variable {prog : Program} {w : World} {A : Around} {E : Value → Shared → Prop} {s : Shared}

theorem zipT_next_item {z TI TO i1 i2 l1 l2 : Addr} {k1 k2 : Nat} {xs ys : Array Value} {x y a b : Value} {Q : Option Value → Shared → Prop} (D : ZipApart z TI TO i1 i2 l1 l2)
    (hz : IsZip s.heap z TI TO .none) (hTI : IsPair s.heap TI (.ref i1) (.ref i2)) (hTO : IsPair s.heap TO a b)
    (h1 : s.heap.IsTupleIter i1 l1 k1) (h2 : s.heap.IsTupleIter i2 l2 k2) (hl1 : s.heap.IsTuple l1 xs) (hl2 : s.heap.IsTuple l2 ys) (hx : xs[k1]? = some x) (hy : ys[k2]? = some y)
    (hQ : ∀ (h' : Heap) (T : Addr), IsZip h' z TI TO (rawInt T) → IsPair h' TO x y → h'.IsTupleIter i1 l1 (k1 + 1) → h'.IsTupleIter i2 l2 (k2 + 1) → h'.IsTuple T #[x, y] → T ≠ z → T ≠ TO → T ≠ i1 → T ≠ i2 →
      (∀ c o, c ≠ z → c ≠ TO → c ≠ i1 → c ≠ i2 → s.heap.get? c = some o → h'.get? c = some o) → Q (some (.ref T)) { s with heap := h' }) :
    wpAny (model prog w) A (pyNext (.ref z)) Q E s := by
  have hT : s.TypeIs (.ref z) "zip" := ⟨_, hz, rfl⟩
  unfold pyNext
  exact wpAny_bind (wpAny_attempt (wpAny_callSpecial?_slot (name := Str.ofString "__next__") hT F.slot_zip_next
    (wpAny_call_entry F.slot_zip_next hT F.entry_zip_next
      (zipT_item D hz hTI hTO h1 h2 hl1 hl2 hx hy fun h' T a1 a2 a3 a4 a5 a6 a7 a8 a9 a0 => wpAny_pure (hQ h' T a1 a2 a3 a4 a5 a6 a7 a8 a9 a0)) (F.args_zip_next_1 _))))

theorem zipT_next_stops {z TI TO i1 i2 l1 l2 : Addr} {k1 k2 : Nat} {xs ys : Array Value} {a b : Value} {Q : Option Value → Shared → Prop} (H : HandledOk A s.heap) (D : ZipApart z TI TO i1 i2 l1 l2)
    (hz : IsZip s.heap z TI TO .none) (hTI : IsPair s.heap TI (.ref i1) (.ref i2)) (hTO : IsPair s.heap TO a b)
    (h1 : s.heap.IsTupleIter i1 l1 k1) (h2 : s.heap.IsTupleIter i2 l2 k2) (hl1 : s.heap.IsTuple l1 xs) (hl2 : s.heap.IsTuple l2 ys) (hend : xs[k1]? = none ∨ ys[k2]? = none)
    (hQ : ∀ h', (∀ c o, c ≠ z → c ≠ TO → c ≠ i1 → c ≠ i2 → s.heap.get? c = some o → h'.get? c = some o) → Q none { s with heap := h' }) : wpAny (model prog w) A (pyNext (.ref z)) Q E s := by
  have hT : s.TypeIs (.ref z) "zip" := ⟨_, hz, rfl⟩
  unfold pyNext
  refine wpAny_bind (wpAny_attempt (wpAny_callSpecial?_slot (name := Str.ofString "__next__") hT F.slot_zip_next
    (wpAny_call_entry F.slot_zip_next hT F.entry_zip_next (zipT_stops H D hz hTI hTO h1 h2 hl1 hl2 hend fun h' e k he => ?_) (F.args_zip_next_1 _))))
  obtain ⟨o, ho, hc⟩ := he
  refine wpAny_bind (wpAny_isInstance (T := "StopIteration") (b := true) ⟨o, ho, hc⟩ isSubtype_stop ?_)
  exact wpAny_pure (hQ _ k)

/-- «if e1 != e2: return False» -/
theorem turn_body {env : Env} {x y : Str} {p1 p2 p3 p4 p5 p6 : Pos} {kk : Nat} {m : Str → Option Value} {v u : Value} {c d : Cont} {Q : Flow → Shared → Prop} (hu : A.units + 8 < cLine)
    (hkind : env.scope.kind = .function) (hx : env.kindOf x = some .local) (hy : env.kindOf y = some .local) (hxd : (x == ("__debug__" : Str)) = false) (hyd : (y == ("__debug__" : Str)) = false)
    (hn : s.heap.Ns env.locals m) (hv : m x = some v) (huu : m y = some u) (pv : PV prog w s.heap v c) (pu : PV prog w s.heap u d) (okc : c.ok = true) (okd : d.ok = true)
    (h : Q (if c = d then .next else .ret (.bool false)) s) :
    wpAny (model prog w) A (execs [.If (.Compare (.Name x p1) [.NotEq] [.Name y p2] p3) [.Return (some (.Constant (.bool false) kk p4)) p5] [] p6] env) Q E s := by
  refine wpAny_execs_cons (wpAny_If (wpAny_isTrue_Compare1 (wpAny_Name (wpAny_loadName_local hkind hx hn hv (wpAny_Name (wpAny_loadName_local hkind hy hn huu
    (pv_ne pv pu okc okd hu (wpAny_truthy_bool ?_))) hyd)) hxd)))
  by_cases hcd : c = d
  · rw [if_pos hcd] at h
    simp only [hcd, decide_true, Bool.not_true, Bool.false_eq_true, if_false]
    exact wpAny_execs_nil (wpAny_execs_nil h)
  · rw [if_neg hcd] at h
    simp only [decide_eq_false hcd, Bool.not_false, if_true]
    exact wpAny_execs_cons (wpAny_Return_some (wpAny_Constant_bool h))
end
end Mine

namespace Mine
section
variable {prog : Program} {w : World} {A : Around} {E : Value → Shared → Prop} {s : Shared}

/-- «for e1, e2 in zip(things, things[1:]): if e1 != e2: return False» -/
theorem zip_loop {env : Env} {x y : Str} {q1 q2 q3 p1 p2 p3 p4 p5 p6 : Pos} {kk k0 : Nat} (hu : A.units + 8 < cLine)
    (hkind : env.scope.kind = .function) (hx : env.kindOf x = some .local) (hy : env.kindOf y = some .local) (hxy : x ≠ y) (hxd : (x == ("__debug__" : Str)) = false) (hyd : (y == ("__debug__" : Str)) = false)
    {z TI TO i1 i2 l1 l2 : Addr} (D : ZipApart z TI TO i1 i2 l1 l2) (hL : env.locals ∉ [z, TI, TO, i1, i2, l1, l2])
    {vs : List Value} {cs : List Cont} {s₀ : Shared} (hpv₀ : PVs prog w s₀.heap vs cs) (hown : ∀ a ∈ [z, i1, i2, env.locals], ∀ o, s₀.heap.get? a = some o → ∀ its n, o.data ≠ .seq its n) (hTO₀ : ∀ v c, PV prog w s₀.heap v c → v ≠ .ref TO)
    {R : Result → Shared → Prop}
    (hret : ∀ h' tk m', (∃ j, ∃ hj : j + 1 < cs.length, cs[j] ≠ cs[j + 1]) → (∀ c o, c ∉ [z, TO, i1, i2, env.locals] → s₀.heap.get? c = some o → h'.get? c = some o) → h'.Ns env.locals m' → R (.ok (.ret (.bool false))) { s₀ with heap := h', toks := tk })
    (hnext : ∀ h' tk m', (∀ j (hj : j + 1 < cs.length), cs[j] = cs[j + 1]) → (∀ c o, c ∉ [z, TO, i1, i2, env.locals] → s₀.heap.get? c = some o → h'.get? c = some o) → h'.Ns env.locals m' → R (.ok .next) { s₀ with heap := h', toks := tk })
    (H : HandledOk A s₀.heap) (hHo : ∀ e, A.handled = some (.ref e) → e ∉ [z, TO, i1, i2, env.locals])
    {h : Heap} {tk : Nat} {m : Str → Option Value} (hz : IsZip h z TI TO .none) (hTI : IsPair h TI (.ref i1) (.ref i2)) (hTO : ∃ a b, IsPair h TO a b) (h1 : h.IsTupleIter i1 l1 0) (h2 : h.IsTupleIter i2 l2 0)
    (hl1 : h.IsTuple l1 vs.toArray) (hl2 : h.IsTuple l2 (vs.drop 1).toArray) (hn : h.Ns env.locals m) (hkeep : ∀ c o, c ∉ [z, TO, i1, i2, env.locals] → s₀.heap.get? c = some o → h.get? c = some o) :
    codeAny (model prog w) A (.forLoop (.Tuple [.Name x q1, .Name y q2] k0 q3) (.ref z) [.If (.Compare (.Name x p1) [.NotEq] [.Name y p2] p3) [.Return (some (.Constant (.bool false) kk p4)) p5] [] p6] [] env) R { s₀ with heap := h, toks := tk } := by
  have hlen := hpv₀.length
  refine codeAny_forLoop_any
    (fun k s' => ∃ h tk m i, s' = { s₀ with heap := h, toks := tk } ∧ k = cs.length + 1 - i ∧ i ≤ cs.length ∧ (∀ j (hj : j + 1 < cs.length), j < i → cs[j] = cs[j + 1]) ∧ IsZip h z TI TO .none ∧ IsPair h TI (.ref i1) (.ref i2) ∧ (∃ a b, IsPair h TO a b) ∧
      h.IsTupleIter i1 l1 i ∧ h.IsTupleIter i2 l2 i ∧ h.IsTuple l1 vs.toArray ∧ h.IsTuple l2 (vs.drop 1).toArray ∧ h.Ns env.locals m ∧ ∀ c o, c ∉ [z, TO, i1, i2, env.locals] → s₀.heap.get? c = some o → h.get? c = some o) ?_ _
    ⟨h, tk, m, 0, rfl, rfl, Nat.zero_le _, fun j _ hj => absurd hj (Nat.not_lt_zero _), hz, hTI, hTO, h1, h2, hl1, hl2, hn, hkeep⟩
  rintro k s' ⟨h, tk, m, i, rfl, rfl, hi, heq, hz, hTI, ⟨a, b, hTO⟩, h1, h2, hl1, hl2, hn, hkeep⟩
  have Hh : HandledOk A h := H.same fun e hv o q => hkeep e o (hHo e hv) q
  have hLz : env.locals ≠ z := fun e => hL (by rw [e]; simp)
  have hLTI : env.locals ≠ TI := fun e => hL (by rw [e]; simp)
  have hLTO : env.locals ≠ TO := fun e => hL (by rw [e]; simp)
  have hLi1 : env.locals ≠ i1 := fun e => hL (by rw [e]; simp)
  have hLi2 : env.locals ≠ i2 := fun e => hL (by rw [e]; simp)
  have hLl1 : env.locals ≠ l1 := fun e => hL (by rw [e]; simp)
  have hLl2 : env.locals ≠ l2 := fun e => hL (by rw [e]; simp)
  by_cases hlt : i + 1 < cs.length
  · obtain ⟨v, hv, pv, okv⟩ := hpv₀.at i (by omega)
    obtain ⟨u, huu, pu, oku⟩ := hpv₀.at (i + 1) hlt
    have hv2 : (vs.drop 1).toArray[i]? = some u := by rw [List.getElem?_toArray, List.getElem?_drop, Nat.add_comm]; exact huu
    refine zipT_next_item (s := { s₀ with heap := h, toks := tk }) D hz hTI hTO h1 h2 hl1 hl2 (x := v) (y := u) (by simpa using hv) hv2 fun g T a1 a2 a3 a4 a5 t1 t2 t3 t4 hk => ?_
    dsimp only
    refine wpAny_letOwnedTupleGo_zip (s := { s₀ with heap := g, toks := tk }) a1 fun g₂ hz₂ hs₂ => ?_
    have up₂ : ∀ c o, c ≠ z → g.get? c = some o → g₂.get? c = some o := fun c o hc e => hs₂.extBut _ _ hc e
    have hT₂ : g₂.IsTuple T #[v, u] := by obtain ⟨o, q, r⟩ := a5; exact ⟨o, up₂ _ _ t1 q, r⟩
    have kept₂ : ∀ c o, c ≠ z → c ≠ TO → c ≠ i1 → c ≠ i2 → h.get? c = some o → g₂.get? c = some o := fun c o c1 c2 c3 c4 e => up₂ c o c1 (hk c o c1 c2 c3 c4 e)
    have H₂ : HandledOk A g₂ := Hh.same fun e hv o q => by
      have := hHo e hv
      simp only [List.mem_cons, List.not_mem_nil, or_false, not_or] at this
      exact kept₂ e o this.1 this.2.1 this.2.2.1 this.2.2.2.1 q
    rw [arm_assign_Tuple]
    refine wpAny_bind (wpAny_standAt ?_)
    refine unpack_pair (s := { s₀ with heap := g₂, toks := tk }) (f := assign (.Name x q1) env) (g := assign (.Name y q2) env) H₂ hT₂ fun g₃ k₃ => ?_
    have n₃ : g₃.Ns env.locals m := hn.at' fun o q => k₃ _ _ (kept₂ _ _ hLz hLTO hLi1 hLi2 q)
    show wpAny _ A (do holding [u] (assign (.Name x q1) env v); holding [] (assign (.Name y q2) env u); pure ()) _ _ _
    have hp : (env.scope.kind == .class || (env.scope.kind == .module && env.locals != env.globals)) = false := by rw [hkind]; rfl
    refine wpAny_bind (wpAny_holding (wpAny_assign_Name (wpAny_storeName_local hx n₃ (fun g₄ n₄ hs₄ => ?_) hp)))
    replace hs₄ : Heap.SameBut env.locals g₃ g₄ := hs₄
    refine wpAny_bind (wpAny_holding (wpAny_assign_Name (wpAny_storeName_local hy n₄ (fun g₅ n₅ hs₅ => wpAny_pure ?_) hp)))
    replace hs₅ : Heap.SameBut env.locals g₄ g₅ := hs₅
    have kept₅ : ∀ c o, c ≠ env.locals → g₂.get? c = some o → g₅.get? c = some o := fun c o hc e => hs₅.extBut _ _ hc (hs₄.extBut _ _ hc (k₃ _ _ e))
    have kept : ∀ c o, c ∉ [z, TO, i1, i2, env.locals] → s₀.heap.get? c = some o → g₅.get? c = some o := fun c o hc e => by
      have hc' := hc
      simp only [List.mem_cons, List.not_mem_nil, or_false, not_or] at hc'
      exact kept₅ c o hc'.2.2.2.2 (kept₂ c o hc'.1 hc'.2.1 hc'.2.2.1 hc'.2.2.2.1 (hkeep c o hc e))
    have pvk : ∀ {v c}, PV prog w s₀.heap v c → PV prog w g₅ v c := fun {v c} hh => by
      have hne := hTO₀ _ _ hh
      cases hh with
      | str x t ht => exact .str x t ht
      | tup p q r s' =>
        rename_i a o its n xs
        refine .tup (kept _ _ (fun hm => ?_) p) q r s'
        rcases List.mem_cons.mp hm with e | hm
        · exact hown _ (by simp [e]) _ p _ _ r
        · rcases List.mem_cons.mp hm with e | hm
          · exact hne (by rw [e])
          · exact hown _ (List.mem_cons_of_mem _ hm) _ p _ _ r
      | lst p q r s' =>
        rename_i a o its n xs
        refine .lst (kept _ _ (fun hm => ?_) p) q r s'
        rcases List.mem_cons.mp hm with e | hm
        · exact hown _ (by simp [e]) _ p _ _ r
        · rcases List.mem_cons.mp hm with e | hm
          · exact hne (by rw [e])
          · exact hown _ (List.mem_cons_of_mem _ hm) _ p _ _ r
    refine turn_body (s := { s₀ with heap := g₅, toks := _ }) (v := v) (u := u) hu hkind hx hy hxd hyd n₅ (by simp [hxy]) (by simp) (pvk pv) (pvk pu) okv oku ?_
    by_cases hcd : cs[i] = cs[i + 1]
    · rw [if_pos hcd]
      refine ⟨cs.length + 1 - (i + 1), by omega, g₅, _, _, i + 1, rfl, rfl, by omega, fun j hj hji => ?_, ?_, ?_, ⟨v, u, ?_⟩, ?_, ?_, ?_, ?_, n₅, kept⟩
      · rcases Nat.lt_or_ge j i with q | q
        · exact heq j hj q
        · have : j = i := by omega
          subst this; exact hcd
      · exact kept₅ _ _ (Ne.symm hLz) hz₂
      · exact kept₅ _ _ (Ne.symm hLTI) (kept₂ _ _ D.TIz D.TITO D.TIi1 D.TIi2 hTI)
      · exact kept₅ _ _ (Ne.symm hLTO) (up₂ _ _ D.TOz a2)
      · obtain ⟨o, q, r⟩ := a3; exact ⟨o, kept₅ _ _ (Ne.symm hLi1) (up₂ _ _ D.i1z q), r⟩
      · obtain ⟨o, q, r⟩ := a4; exact ⟨o, kept₅ _ _ (Ne.symm hLi2) (up₂ _ _ D.i2z q), r⟩
      · obtain ⟨o, q, r⟩ := hl1; exact ⟨o, kept₅ _ _ (Ne.symm hLl1) (kept₂ _ _ D.l1z D.l1TO D.l1i1 D.l1i2 q), r⟩
      · obtain ⟨o, q, r⟩ := hl2; exact ⟨o, kept₅ _ _ (Ne.symm hLl2) (kept₂ _ _ D.l2z D.l2TO D.l2i1 D.l2i2 q), r⟩
    · rw [if_neg hcd]
      exact hret g₅ _ _ ⟨i, hlt, hcd⟩ kept n₅
  · have hend : vs.toArray[i]? = none ∨ (vs.drop 1).toArray[i]? = none := .inr (by
      rw [List.getElem?_toArray, List.getElem?_drop]; exact List.getElem?_eq_none (by omega))
    refine zipT_next_stops (s := { s₀ with heap := h, toks := tk }) Hh D hz hTI hTO h1 h2 hl1 hl2 hend fun g hk => ?_
    dsimp only
    refine wpAny_execs_nil (hnext g tk m (fun j hj => heq j hj (by omega)) (fun c o hc e => ?_) (hn.at' fun o q => hk _ _ hLz hLTO hLi1 hLi2 q))
    have hc' := hc
    simp only [List.mem_cons, List.not_mem_nil, or_false, not_or] at hc'
    exact hk c o hc'.1 hc'.2.1 hc'.2.2.1 hc'.2.2.2.1 (hkeep c o hc e)
end
end Mine

namespace Mine
theorem wp_peek1 {α : Type} {M : Model} {A : Around} {E : Value → Shared → Prop} {Q : α → Shared → Prop} {s : Shared} {o : Obj} {r : Addr → α}
    (q : Q (r s.heap.objs.size) { s with heap := s.heap.push o }) :
    ∀ (t : Sem α) (g : Addr → Option α), peek1 [] ⟨M.prog, M.w.params⟩ t = some (o, g) → (∀ D, g D = some (r D)) → wpAny M A t Q E s := by
  intro t
  induction t with
  | rule _ k ih => intro g e hg Γ p hΓ; exact ih () g e hg Γ p hΓ
  | point _ k ih => intro g e hg Γ p hΓ; exact ih () g e hg Γ p hΓ
  | ask k ih => intro g e hg Γ p hΓ; exact ih _ g e hg Γ p hΓ
  | load a _ k ih => intro g e; simp [peek1] at e
  | alloc ob k _ =>
    intro g e hg
    have e : some (ob, fun D => peek [] ⟨M.prog, M.w.params⟩ (k D)) = some (o, g) := e
    obtain ⟨e1, e2⟩ := Prod.mk.inj (Option.some.inj e)
    subst e1
    subst e2
    show wpAny M A (alloc ob >>= k) Q E s
    refine wpAny_bind (wpAny_alloc ?_)
    exact (Looks.of_peek (M := M) (K := []) (h := s.heap.push ob) (fun a o h => by simp at h) (hg s.heap.objs.size)).here (s := { s with heap := s.heap.push ob }) q
  | _ => intro g e; cases e

/-- the frames of the callers stand, apart from what the callee needs -/
structure FS (A : Around) (envs : List Env) (base h : Heap) : Prop where
  fr : A.frames = some envs
  ff : h.FunFrames base envs
  st : base.StaysIn h

section
variable {prog : Program} {w : World} {A : Around} {s : Shared} {envs : List Env} {base : Heap} {R : Result → Shared → Prop}

theorem enter_rest {name qual : Str} {params : Arguments} {body : List Stmt} {scope : Scope} {doc pm cdv ct : Value} {an : Option Addr} {o : Obj} {f : Addr} {args : Args} {vs : List Value} {g₁ : Addr → Option (List (Str × Value))} {binds : Addr → List (Str × Value)}
    (S : FS A envs base s.heap) (ho : base.get? f = some o) (hd : o.data = .func (fnOf name qual params body scope .none .none doc pm an cdv ct)) (hcd : base.CodeRec cdv qual) (hlim : base.NoLimit) (hroom : A.depth < recursionLimit)
    (hp : peek1 [] ⟨prog, w.params⟩ (bindArgs (fnOf name qual params body scope .none .none doc pm an cdv ct) args) = some (({ cls := .type "tuple", data := .seq vs.toArray } : Obj), g₁))
    (hg : ∀ D, g₁ D = some (binds D)) (hloc : ∀ D, ∀ y ∈ binds D, scope.names.lookup y.1 = some .local)
    (h : ∀ D L' h₁ tk, base.StaysIn h₁ → h₁.FunFrames base (envOf qual scope L' f cdv :: envs) → (∀ b o, s.heap.get? b = some o → h₁.get? b = some o) → h₁.get? D = some { cls := .type "tuple", data := .seq vs.toArray } → D ≠ L' → s.heap.get? D = none → s.heap.get? L' = none →
      h₁.Ns L' (fun y => (binds D).reverse.lookup y) →
      wpAny (model prog w) (A.deeper (envOf qual scope L' f cdv)) (execs body (envOf qual scope L' f cdv))
        (fun fl s' => R (.ok (.ret (match fl with | .ret v => v | _ => .none))) s')
        (fun e s' => wpAny (model prog w) (A.deeper (envOf qual scope L' f cdv)) (leaving (envOf qual scope L' f cdv) e) (fun _ s'' => R (.error e) s'') (fun e' s'' => R (.error e') s'') s')
        { s with heap := h₁, toks := tk })
    (hco : scope.isCoroutine = false) (hgen : scope.isGenerator = false) (hk : scope.kind = .function) (hcell : ∀ x ∈ scope.names, x.2 ≠ .cell) :
    codeAny (model prog w) A (.call (.ref f) args) R s := by
  refine codeAny_call_function (fd := fnOf name qual params body scope .none .none doc pm an cdv ct) (body := body) hroom (S.st _ _ ho) hd hco hgen rfl (hcd.keeps S.st) ?_
  refine wp_peek1 (r := binds) ?_ _ g₁ hp hg
  have k0 : ∀ b o, s.heap.get? b = some o → (s.heap.push { cls := .type "tuple", data := .seq vs.toArray }).get? b = some o := fun b o e => Heap.get?_push_of_some _ e
  refine wpAny_newFunctionEnv hcell (hloc _) (fun h₁ hns hsb => ⟨((hlim.keeps S.st).keeps k0).fresh _ hsb, codeAny_func ?_⟩) hk
  have hsz : (s.heap.push { cls := .type "tuple", data := .seq vs.toArray }).objs.size = s.heap.objs.size + 1 := Heap.size_push ..
  have k1 : ∀ b o, s.heap.get? b = some o → h₁.get? b = some o := fun b o e => hsb.extBut b o (by rw [hsz]; exact Nat.ne_of_lt (Nat.lt_succ_of_lt (Heap.lt_size e))) (Heap.get?_push_of_some _ (k0 b o e))
  have fresh : ∀ a, s.heap.objs.size ≤ a → s.heap.get? a = none := fun a ha => Heap.get?_none_of_le ha
  have bfresh : ∀ a, s.heap.objs.size ≤ a → base.get? a = none := fun a ha => by
    cases e : base.get? a with
    | none => rfl
    | some o' => have := S.st a o' e; rw [fresh a ha] at this; cases this
  have hns' := hns
  obtain ⟨oL, es, ep, hL, hLd, r⟩ := hns
  refine h s.heap.objs.size (s.heap.push { cls := .type "tuple", data := .seq vs.toArray }).objs.size h₁ _ (fun b o e => k1 b o (S.st b o e))
    ⟨by show scope.kind ≠ .module; rw [hk]; decide, ⟨_, oL, rfl, bfresh _ (by rw [hsz]; exact Nat.le_succ _), hL, fun ws q => by rw [hLd] at q; cases q⟩, S.ff.of_keeps fun b o e _ => ⟨o, k1 b o e, rfl⟩⟩ k1
    (hsb.extBut _ _ (by rw [hsz]; exact Nat.ne_of_lt (Nat.lt_succ_self _)) (Heap.get?_push_of_some _ (Heap.get?_push_size _ rfl))) (by rw [hsz]; exact Nat.ne_of_lt (Nat.lt_succ_self _)) (fresh _ (Nat.le_refl _)) (fresh _ (by rw [hsz]; exact Nat.le_succ _)) hns'
end
end Mine

namespace Mine
/-- the names that stand at the top, as the callee needs them -/
structure Names (base : Heap) (mg mb : Str → Option Value) : Prop where
  g : base.Ns mainGlobals mg
  b : base.Ns builtinsNs mb
  builtins : ∀ x : Str, x ≠ "__name__" → mb x = bootBuiltins x

section
variable {prog : Program} {w : World} {M : Model} {A : Around} {E : Value → Shared → Prop} {s : Shared} {envs : List Env} {base : Heap} {mg mb : Str → Option Value}

theorem name_built {env : Env} {x : Str} {pos : Pos} {v : Value} {Q : Value → Shared → Prop} (T : Names base mg mb) (st : base.StaysIn s.heap) (hm : mg x = none) (hv : bootBuiltins x = some v) (hn : x ≠ "__name__")
    (hg : env.globals = mainGlobals) (hb : env.builtins = builtinsNs) (hk : env.scope.kind = .function) (hx : env.kindOf x = some .globalImplicit) (hd : (x == ("__debug__" : Str)) = false) (h : Q v s) :
    wpAny M A (eval (.Name x pos) env) Q E s :=
  Calls.Name_function_global hk hx (Calls.loadGlobal_builtin (env := env) (by rw [hg]; exact T.g.keeps st) hm (by rw [hb]; exact T.b.keeps st) ((T.builtins x hn).trans hv) h) hd

/-- the exception's own part behind a note: its traceback, and no context -/
def Noted (h : Heap) (e T : Addr) (fl : Value) : Prop :=
  ∃ oe vs oT ts, h.get? e = some oe ∧ oe.cls = .type "TypeError" ∧ oe.data = .fields vs ∧ vs[1]? = some (.ref T) ∧ vs[2]? = some .none ∧ T ≠ e ∧ h.get? T = some oT ∧ oT.data = .fields ts ∧ ts[3]? = some fl

theorem note_new {env : Env} {L e : Addr} {h₀ : Heap} {Q : Unit → Shared → Prop} (hfr : A.frames = some (env :: envs)) (hff : s.heap.FunFrames base (env :: envs)) (hf : env.frame = some L) (hx : Heap.NewExc h₀ s.heap e "TypeError")
    (hQ : ∀ h' T, h₀.get? T = none → T ≠ e → s.heap.get? T = none → Noted h' e T (rawInt L) → (∀ b o, b ∉ (env :: envs).filterMap (·.frame) → b ≠ e → s.heap.get? b = some o → h'.get? b = some o) →
      (∀ b o, s.heap.get? b = some o → (∀ vs, o.data ≠ .fields vs) → ∃ sl, h'.get? b = some { o with slots := sl }) → h'.FunFrames base (env :: envs) → Q () { s with heap := h' }) :
    wpAny M A (noteFrame (.ref e) env) Q E s := by
  obtain ⟨ob, tp, he, hcls, hd⟩ := hx.there
  have hene : e ∉ (env :: envs).filterMap (·.frame) := fun hm => by
    obtain ⟨_, o, ho, hnf⟩ := hff.mem hm
    rw [he] at ho; injection ho with ho; subst ho; exact hnf _ hd
  unfold noteFrame
  simp only [hf]
  refine wpAny_bind (wpAny_field he hd (x := .none) rfl ?_)
  rw [if_neg (by decide)]
  refine wpAny_bind (wpAny_frameOf_fun hfr hff hf fun h₁ hs₁ => ?_)
  refine wpAny_bind (wpAny_entryPlaceOf fun pl hpl => ?_)
  unfold EntryCells.newEntry newFields
  refine wpAny_bind (wpAny_newObj_type ?_ (hpl.sizeOk5 _ _ _ _ _))
  have he₁ : h₁.get? e = some ob := (hs₁.2.1 e hene).trans he
  generalize hT : ({ cls := .type "traceback", dict := none, data := .fields ([Value.none, .ref L, .none, rawInt L, .none] ++ (if pl.isEmpty then List.replicate 6 Value.none else pl)).toArray } : Obj) = oT
  have hTd : oT.data = .fields ([Value.none, .ref L, .none, rawInt L, .none] ++ (if pl.isEmpty then List.replicate 6 Value.none else pl)).toArray := by rw [← hT]
  have hTf : oT.isFreed = false := by rw [← hT]; rfl
  have he₂ := Heap.get?_push_of_some (h := h₁) oT he₁
  have hTe : h₁.objs.size ≠ e := Nat.ne_of_gt (Heap.lt_size he₁)
  refine wpAny_setField he₂ hd (by simp) ?_
  have hd₃ := Obj.data_mapFields hd (·.setIfInBounds 1 (Value.ref h₁.objs.size))
  have he₃ := Heap.get?_update_self (Obj.mapFields (·.setIfInBounds 1 (Value.ref h₁.objs.size))) he₂ (Obj.isFreed_of_fields hd₃)
  have hT₃ := (Heap.get?_update_other (h₁.push oT) (Obj.mapFields (·.setIfInBounds 1 (Value.ref h₁.objs.size))) (Ne.symm hTe)).trans (Heap.get?_push_size h₁ hTf)
  have keep : ∀ b o, b ≠ e → h₁.get? b = some o → ((h₁.push oT).update e (Obj.mapFields (·.setIfInBounds 1 (Value.ref h₁.objs.size)))).get? b = some o := fun b o hbe hb => by
    rw [Heap.get?_update_other _ _ (Ne.symm hbe)]
    exact Heap.get?_push_of_some _ hb
  have hnone : s.heap.get? h₁.objs.size = none := by rw [hs₁.1]; exact Heap.get?_none_of_le (Nat.le_refl _)
  have up : ∀ b o, s.heap.get? b = some o → (∀ vs, o.data ≠ .fields vs) → ∃ sl, ((h₁.push oT).update e (Obj.mapFields (·.setIfInBounds 1 (Value.ref h₁.objs.size)))).get? b = some { o with slots := sl } := fun b o hb hnf => by
    obtain ⟨sl, hs⟩ := hs₁.2.2 b o hb
    exact ⟨sl, keep b _ (fun q => by rw [q, he] at hb; cases hb; exact hnf _ hd) hs⟩
  refine hQ _ h₁.objs.size ?_ hTe hnone ⟨_, _, oT, _, he₃, (Obj.cls_mapFields _ _).trans hcls, hd₃, by simp, by simp, hTe, hT₃, hTd, by simp⟩ (fun b o hb hbe q => keep b o hbe ((hs₁.2.1 b hb).trans q)) up
    (hff.of_keeps fun b o hb hnf => by obtain ⟨sl, hs⟩ := up b o hb hnf; exact ⟨_, hs, rfl⟩)
  cases q : h₀.get? h₁.objs.size with
  | none => rfl
  | some o => have := hx.keeps _ _ q; rw [hnone] at this; cases this

theorem flight_off {e T : Addr} {fl : Value} {Q : Unit → Shared → Prop} (hN : Noted s.heap e T fl) (hQ : ∀ h', Noted h' e T .none → (∀ b o, b ≠ T → s.heap.get? b = some o → h'.get? b = some o) → Q () { s with heap := h' }) :
    wpAny M A (setFlight (.ref e) none) Q E s := by
  obtain ⟨oe, vs, oT, ts, he, hc, hd, h1, h2, hTe, hT, hdT, h3⟩ := hN
  unfold setFlight
  refine wpAny_bind (wpAny_field he hd h1 ?_)
  rw [if_pos (show (Value.ref T != Value.none) = true from by simp)]
  have hsz3 : 3 < ts.size := (Array.getElem?_eq_some_iff.mp h3).1
  have other : ∀ b, b ≠ T → (s.heap.update T (Obj.mapFields (·.setIfInBounds 3 ((none : Option Addr).elim Value.none fun f => rawInt f)))).get? b = s.heap.get? b := fun b hb => Heap.get?_update_other _ _ (Ne.symm hb)
  refine wpAny_setField hT hdT hsz3 (hQ _ ?_ fun b o hb q => (other b hb).trans q)
  exact ⟨oe, vs, _, _, (other e (Ne.symm hTe)).trans he, hc, hd, h1, h2, hTe, Heap.get?_update_self _ hT (Obj.isFreed_of_fields (Obj.data_mapFields hdT _)), Obj.data_mapFields hdT _, by simp [hsz3]⟩

theorem caught {env : Env} {L e : Addr} {h₀ : Heap} {np pos : Pos} {b₀ : Stmt} {suite : List Stmt} {rest : List ExceptHandler} {Q : Flow → Shared → Prop} {x : Str} (hfr : A.frames = some (env :: envs)) (hff : s.heap.FunFrames base (env :: envs)) (hst : base.StaysIn h₀)
    (hf : env.frame = some L) (hx : Heap.NewExc h₀ s.heap e "TypeError") (T : Names base mg mb) (hm : mg x = none) (hv : bootBuiltins x = some (.type "TypeError")) (hn : x ≠ "__name__")
    (hg : env.globals = mainGlobals) (hb : env.builtins = builtinsNs) (hk : env.scope.kind = .function) (hxk : env.kindOf x = some .globalImplicit) (hd : (x == ("__debug__" : Str)) = false)
    (k : ∀ h' E', (∀ b o, b ∉ (env :: envs).filterMap (·.frame) → h₀.get? b = some o → h'.get? b = some o) → (∀ b o, h₀.get? b = some o → (∀ vs, o.data ≠ .fields vs) → ∃ sl, h'.get? b = some { o with slots := sl }) → h'.FunFrames base (env :: envs) →
      HandledOk (A.mark (some (.ref e))) h' → h₀.get? e = none → wpAny (model prog w) (A.mark (some (.ref e))) (execs (b₀ :: suite) env) Q E' { s with heap := h' }) :
    wpAny (model prog w) A (noteFrame (.ref e) env) (fun _ s₂ => wpAny (model prog w) A (setFlight (.ref e) none) (fun _ s₃ => wpAny (model prog w) A (handleBy (.ref e) env (.ExceptHandler (some (.Name x np)) none (b₀ :: suite) pos :: rest)) Q E s₃) E s₂) E s := by
  refine note_new hfr hff hf hx fun h₁ Tb hT0 hTe hTs N₁ k₁ u₁ f₁ => ?_
  refine flight_off (s := { s with heap := h₁ }) N₁ fun h₂ N₂ k₂ => ?_
  have hst₂ : base.StaysIn h₂ := fun b o q => by
    have q0 := hst b o q
    have hbf : b ∉ (env :: envs).filterMap (·.frame) := fun hm => by rw [(hff.mem hm).1] at q; cases q
    have hbe : b ≠ e := fun r => by rw [r, hx.new] at q0; cases q0
    have hbT : b ≠ Tb := fun r => by rw [r, hT0] at q0; cases q0
    exact k₂ b o hbT (k₁ b o hbf hbe (hx.keeps b o q0))
  refine wpAny_handleBy_builtin (X := "TypeError") (T := "TypeError") (b := true) PySem.F.isExc_TypeError PySem.F.notTuple_TypeError (by rw [isSubtype_type]; kernel_rfl)
    (name_built (s := { s with heap := h₂ }) T hst₂ hm hv hn hg hb hk hxk hd ⟨rfl, ?_, ?_⟩)
  · obtain ⟨oe, vs, oT, ts, he, hc, r⟩ := N₂
    exact ⟨oe, he, hc⟩
  · rw [if_pos rfl]
    refine flight_off (s := { s with heap := h₂ }) N₂ fun h₃ N₃ k₃ => ?_
    refine k h₃ _ (fun b o hbf q => ?_) (fun b o q hnf => ?_) (f₁.of_keeps fun b o q hnf => ?_) (fun v hv => ?_) hx.new
    · have hbe : b ≠ e := fun r => by rw [r, hx.new] at q; cases q
      have hbT : b ≠ Tb := fun r => by rw [r, hT0] at q; cases q
      exact k₃ b o hbT (k₂ b o hbT (k₁ b o hbf hbe (hx.keeps b o q)))
    · have hbT : b ≠ Tb := fun r => by rw [r, hT0] at q; cases q
      obtain ⟨sl, hs⟩ := u₁ b o (hx.keeps b o q) hnf
      exact ⟨sl, k₃ b _ hbT (k₂ b _ hbT hs)⟩
    · by_cases hbT : b = Tb
      · obtain ⟨_, _, oT, ts, _, _, _, _, _, _, hT, hdT, _⟩ := N₁
        rw [hbT, hT] at q; cases q; exact absurd hdT (hnf _)
      · exact ⟨o, k₃ b o hbT (k₂ b o hbT q), rfl⟩
    · have : v = .ref e := by
        have hv' : (some (Value.ref e)).or A.handled = some v := hv
        simpa using hv'.symm
      subst this
      obtain ⟨oe, vs, oT, ts, he, hc, hd', h1, h2, r⟩ := N₃
      exact ⟨e, oe, vs, rfl, he, hd', h2⟩
end
end Mine

namespace Mine
abbrev zt1 (h : Heap) (l1 : Addr) : Heap := h.push { cls := .type "tuple_iterator", data := .fields #[.ref l1, .int 0 0] }
abbrev zt2 (h : Heap) (l1 l2 : Addr) : Heap := (zt1 h l1).push { cls := .type "tuple_iterator", data := .fields #[.ref l2, .int 0 0] }
abbrev zt3 (h : Heap) (l1 l2 : Addr) : Heap := (zt2 h l1 l2).push { cls := .type "tuple", data := .seq #[.ref h.objs.size, .ref (zt1 h l1).objs.size] }
abbrev zt4 (h : Heap) (l1 l2 : Addr) : Heap := (zt3 h l1 l2).push { cls := .type "tuple", data := .seq #[.none, .none] }
abbrev zt5 (h : Heap) (l1 l2 : Addr) : Heap := (zt4 h l1 l2).push { cls := .type "zip", data := .fields #[.none, .bool false, .bool false, .ref (zt2 h l1 l2).objs.size, .ref (zt3 h l1 l2).objs.size] }

theorem meets_zip_tuples (l1 l2 : Addr) (xs ys : Array Value) :
    Meets (Builtin.«zip.__new__» ⟨[.type "zip", .ref l1, .ref l2], []⟩) (fun _ R s => s.heap.IsTuple l1 xs ∧ s.heap.IsTuple l2 ys ∧
      R (.ok (.ret (.ref (zt4 s.heap l1 l2).objs.size))) { s with heap := zt5 s.heap l1 l2 }) :=
  .of_wp fun prog w A R s h => by
    obtain ⟨hp, g, d, tk, os⟩ := s; obtain ⟨hl1, hl2, h⟩ := h
    have hsub := sub_zip
    have hL1 : Heap.IsTuple (Shared.heap ⟨hp, g, d, tk, os⟩) l1 xs := hl1
    have hL2 : Heap.IsTuple (Shared.heap ⟨hp.push { cls := .type "tuple_iterator", data := .fields #[.ref l1, .int 0 0] }, g, d, tk, os⟩) l2 ys := Heap.IsTuple.push hl2 _
    wp_walk using wpAny_pyIter_tuple hL1, wpAny_pyIter_tuple hL2
    exact ⟨_, rfl, h⟩

section
variable {prog : Program} {w : World} {A : Around} {E : Value → Shared → Prop} {s : Shared}

theorem call_zip_tuples {l1 l2 : Addr} {xs ys : Array Value} {Q : Value → Shared → Prop} (hl1 : s.heap.IsTuple l1 xs) (hl2 : s.heap.IsTuple l2 ys)
    (h : ∀ h' z TI TO i1 i2, z = s.heap.objs.size + 4 → TI = s.heap.objs.size + 2 → TO = s.heap.objs.size + 3 → i1 = s.heap.objs.size → i2 = s.heap.objs.size + 1 →
      IsZip h' z TI TO .none → IsPair h' TI (.ref i1) (.ref i2) → IsPair h' TO .none .none → h'.IsTupleIter i1 l1 0 → h'.IsTupleIter i2 l2 0 →
      (∀ c o, s.heap.get? c = some o → h'.get? c = some o) → Q (.ref z) { s with heap := h' }) :
    wpAny (model prog w) A (call (.type "zip") [.ref l1, .ref l2]) Q E s := by
  refine callType_new F.called_zip (by decide) (F.typeCall_zip_2 _ _) (F.newCall_zip_2 _ _) (fun obj => F.args_object_init_3 obj _ _) F.entry_zip_new
    (meets_zip_tuples l1 l2 xs ys) ⟨hl1, hl2, ?_⟩
  have z1 : (zt1 s.heap l1).objs.size = s.heap.objs.size + 1 := Heap.size_push ..
  have z2 : (zt2 s.heap l1 l2).objs.size = s.heap.objs.size + 2 := by rw [Heap.size_push, z1]
  have z3 : (zt3 s.heap l1 l2).objs.size = s.heap.objs.size + 3 := by rw [Heap.size_push, z2]
  have z4 : (zt4 s.heap l1 l2).objs.size = s.heap.objs.size + 4 := by rw [Heap.size_push, z3]
  have g5 : (zt5 s.heap l1 l2).get? (zt4 s.heap l1 l2).objs.size = some _ := Heap.get?_push_size _ rfl
  have g4 : (zt5 s.heap l1 l2).get? (zt3 s.heap l1 l2).objs.size = some _ := Heap.get?_push_of_some _ (Heap.get?_push_size _ rfl)
  have g3 : (zt5 s.heap l1 l2).get? (zt2 s.heap l1 l2).objs.size = some _ := Heap.get?_push_of_some _ (Heap.get?_push_of_some _ (Heap.get?_push_size _ rfl))
  have g2 : (zt5 s.heap l1 l2).get? (zt1 s.heap l1).objs.size = some _ := Heap.get?_push_of_some _ (Heap.get?_push_of_some _ (Heap.get?_push_of_some _ (Heap.get?_push_size _ rfl)))
  have g1 : (zt5 s.heap l1 l2).get? s.heap.objs.size = some _ := Heap.get?_push_of_some _ (Heap.get?_push_of_some _ (Heap.get?_push_of_some _ (Heap.get?_push_of_some _ (Heap.get?_push_size _ rfl))))
  show _ ∧ _
  rw [z2, z3, z4] at g5
  rw [z1, z2] at g3
  rw [z3] at g4
  rw [z1] at g2
  rw [z4]
  exact ⟨⟨_, g5, rfl⟩, h _ _ _ _ _ _ rfl rfl rfl rfl rfl g5 g3 g4 ⟨_, g1, rfl, rfl⟩ ⟨_, g2, rfl, rfl⟩ fun c o x =>
    Heap.get?_push_of_some _ (Heap.get?_push_of_some _ (Heap.get?_push_of_some _ (Heap.get?_push_of_some _ (Heap.get?_push_of_some _ x))))⟩
end
end Mine

namespace Mine
def allEq : List Cont → Bool
  | [] => false
  | c :: r => r.all fun d => decide (c = d)

theorem allEq_cnt (cs : List Cont) : (match cs.foldl Cnt.add .zero with | .one _ => true | _ => false) = allEq cs := by
  rw [cnt_fold]
  cases cs with
  | nil => rfl
  | cons c r =>
    simp only [allEq]
    by_cases h : (r.all fun d => decide (c = d)) = true
    · rw [h]; rfl
    · rw [Bool.not_eq_true] at h; rw [h]; rfl

theorem all_of_chain : ∀ {r : List Cont} {c : Cont}, (∀ j (hj : j + 1 < (c :: r).length), (c :: r)[j] = (c :: r)[j + 1]) → (r.all fun d => decide (c = d)) = true
  | [], _, _ => rfl
  | d :: r, c, h => by
    have h0 : c = d := h 0 (by simp)
    subst h0
    rw [List.all_cons, decide_eq_true rfl, Bool.true_and]
    exact all_of_chain fun j hj => h (j + 1) (by simpa using hj)
theorem chain_of_all : ∀ {r : List Cont} {c : Cont}, (r.all fun d => decide (c = d)) = true → ∀ j (hj : j + 1 < (c :: r).length), (c :: r)[j] = (c :: r)[j + 1]
  | [], _, _, j, hj => by simp at hj
  | d :: r, c, h, j, hj => by
    rw [List.all_cons, Bool.and_eq_true, decide_eq_true_eq] at h
    obtain ⟨rfl, h⟩ := h
    cases j with
    | zero => rfl
    | succ j => exact chain_of_all h j (by simpa using hj)
theorem allEq_chain {cs : List Cont} (h : ∀ j (hj : j + 1 < cs.length), cs[j] = cs[j + 1]) (hne : cs ≠ []) : allEq cs = true := by
  cases cs with
  | nil => exact absurd rfl hne
  | cons c r => exact all_of_chain h
theorem not_allEq {cs : List Cont} (h : ∃ j, ∃ hj : j + 1 < cs.length, cs[j] ≠ cs[j + 1]) : allEq cs = false := by
  obtain ⟨j, hj, hne⟩ := h
  cases cs with
  | nil => simp at hj
  | cons c r =>
    cases hq : allEq (c :: r) with
    | false => rfl
    | true => exact absurd (chain_of_all hq j hj) hne

section
variable {prog : Program} {w : World} {A : Around} {E : Value → Shared → Prop} {s : Shared} {envs : List Env} {base : Heap} {mg mb : Str → Option Value} {env : Env} {m : Str → Option Value} {D : Addr} {vs : List Value} {cs : List Cont}


set_option maxHeartbeats 2000000 in
theorem zip_head {xe : Str} {p1 p2 p3 p4 p5 p6 p7 : Pos} {kk : Nat} {Q : Value → Shared → Prop} (T : Names base mg mb) (hst : base.StaysIn s.heap) (hz : mg "zip" = none) (hzk : env.kindOf "zip" = some .globalImplicit)
    (hg : env.globals = mainGlobals) (hb : env.builtins = builtinsNs) (hk : env.scope.kind = .function) (hxk : env.kindOf xe = some .local) (hxd : (xe == ("__debug__" : Str)) = false)
    (hn : s.heap.Ns env.locals m) (hm : m xe = some (.ref D)) (hD : s.heap.IsTuple D vs.toArray) (h1 : 1 ≤ vs.length) (h4 : vs.length ≤ 4)
    (h : ∀ h' tk D2 z TI TO i1 i2, s.heap.objs.size ≤ D2 → z ≠ D2 → (∀ a ∈ [z, TI, TO, i1, i2], D2 < a) → ZipApart z TI TO i1 i2 D D2 → IsZip h' z TI TO .none → IsPair h' TI (.ref i1) (.ref i2) → IsPair h' TO .none .none → h'.IsTupleIter i1 D 0 → h'.IsTupleIter i2 D2 0 →
      h'.IsTuple D vs.toArray → h'.IsTuple D2 (vs.drop 1).toArray → (∀ c o, s.heap.get? c = some o → h'.get? c = some o) → Q (.ref z) { s with heap := h', toks := tk }) :
    wpAny (model prog w) A (eval (.Call (.Name "zip" p1) [.Name xe p2, .Subscript (.Name xe p3) (.Slice (some (.Constant (.int 1) kk p4)) none none p5) p6] [] p7) env) Q E s := by
  have hds : D < s.heap.objs.size := by obtain ⟨_, e, _⟩ := hD; exact Heap.lt_size e
  refine Call_ (name_built T hst hz PyProof.Rows.boot_zip (by decide) hg hb hk hzk (by decide) ?_)
  refine callWith_type1 (he := rfl) (hplain := rfl) (args_cons (he := rfl) (wpAny_Name (wpAny_loadName_local hk hxk hn hm ?_) hxd))
  refine args_cons (he := rfl) (wpAny_Subscript_Slice (T := "tuple") slot_tuple_getitem.lookup (wpAny_Name (wpAny_loadName_local hk hxk hn hm ?_) hxd))
  refine wpAny_Slice ?_
  rw [evalPart_some, evalPart_none]
  refine wpAny_Constant_int (wpAny_pure (wpAny_pure ?_))
  have hD1 : IsTup (s.heap.push { cls := .type "slice", data := .fields #[.int 1 s.toks, .none, .none] }) D vs.toArray := by
    obtain ⟨o, q, r⟩ := hD; exact ⟨o, Heap.get?_push_of_some _ q, r⟩
  refine ⟨hD1.typeIs, ?_⟩
  refine getItem_tuple_from (s := { s with heap := s.heap.push { cls := .type "slice", data := .fields #[.int 1 s.toks, .none, .none] }, toks := s.toks + 1 }) (a := 1) hD1 (Heap.IsSliceOf.new ..) (Nat.le_refl _) (by simpa using h1) ?_ (by rw [List.size_toArray, sizeLine_eq]; omega)
  refine args_nil ?_
  have hsz1 : (s.heap.push { cls := .type "slice", data := .fields #[.int 1 s.toks, .none, .none] }).objs.size = s.heap.objs.size + 1 := Heap.size_push ..
  have hD2 : ((s.heap.push { cls := .type "slice", data := .fields #[.int 1 s.toks, .none, .none] }).push { cls := .type "tuple", data := .seq ((vs.toArray).toList.drop 1).toArray }).IsTuple (s.heap.push { cls := .type "slice", data := .fields #[.int 1 s.toks, .none, .none] }).objs.size (vs.drop 1).toArray :=
    ⟨_, Heap.get?_push_size _ rfl, rfl, _, rfl⟩
  have hD3 : ((s.heap.push { cls := .type "slice", data := .fields #[.int 1 s.toks, .none, .none] }).push { cls := .type "tuple", data := .seq ((vs.toArray).toList.drop 1).toArray }).IsTuple D vs.toArray := by
    obtain ⟨o, q, r⟩ := hD; exact ⟨o, Heap.get?_push_of_some _ (Heap.get?_push_of_some _ q), r⟩
  refine call_zip_tuples (s := { s with heap := (s.heap.push { cls := .type "slice", data := .fields #[.int 1 s.toks, .none, .none] }).push { cls := .type "tuple", data := .seq ((vs.toArray).toList.drop 1).toArray }, toks := s.toks + 1 }) hD3 hD2 fun h' z TI TO i1 i2 e1 e2 e3 e4 e5 q1 q2 q3 q4 q5 k => ?_
  have hsz2 : ((s.heap.push { cls := .type "slice", data := .fields #[.int 1 s.toks, .none, .none] }).push { cls := .type "tuple", data := .seq ((vs.toArray).toList.drop 1).toArray }).objs.size = s.heap.objs.size + 1 + 1 := by rw [Heap.size_push, hsz1]
  simp only [hsz2] at e1 e2 e3 e4 e5
  rw [hsz1] at q5 hD2
  have up : ∀ c o, s.heap.get? c = some o → h'.get? c = some o := fun c o q => k c o (Heap.get?_push_of_some _ (Heap.get?_push_of_some _ q))
  have sD : @LT.lt Nat _ D s.heap.objs.size := hds
  have e1' : @Eq Nat z (s.heap.objs.size + 1 + 1 + 4) := e1
  have e2' : @Eq Nat TI (s.heap.objs.size + 1 + 1 + 2) := e2
  have e3' : @Eq Nat TO (s.heap.objs.size + 1 + 1 + 3) := e3
  have e4' : @Eq Nat i1 (s.heap.objs.size + 1 + 1) := e4
  have e5' : @Eq Nat i2 (s.heap.objs.size + 1 + 1 + 1) := e5
  refine h h' _ (s.heap.objs.size + 1) z TI TO i1 i2 (Nat.le_succ _) (by show @Ne Nat _ _; omega) (fun a ha => ?_) ?_ q1 q2 q3 q4 q5 ?_ ?_ up
  · show @LT.lt Nat _ _ _
    simp only [List.mem_cons, List.not_mem_nil, or_false] at ha
    rcases ha with rfl | rfl | rfl | rfl | rfl <;> omega
  · constructor <;> (show @Ne Nat _ _; omega)
  · obtain ⟨o, q, r⟩ := hD; exact ⟨o, up _ _ q, r⟩
  · obtain ⟨o, q, r⟩ := hD2; exact ⟨o, k _ _ q, r⟩
end
end Mine

namespace Mine
section
variable {prog : Program} {w : World} {A : Around} {E : Value → Shared → Prop} {s : Shared} {envs : List Env} {base : Heap} {mg mb : Str → Option Value} {env : Env} {m : Str → Option Value} {D : Addr} {vs : List Value} {cs : List Cont}

theorem PVs.notEmpty {h : Heap} (x : PVs prog w h vs cs) (hb : ∃ c ∈ cs, c.hashable = false) : 1 ≤ vs.length ∧ cs ≠ [] := by
  obtain ⟨c, hc, _⟩ := hb
  have := List.length_pos_of_mem hc
  exact ⟨by rw [x.length]; exact this, fun e => by rw [e] at hc; simp at hc⟩

/-- «return len(set(elements)) == 1» -/
theorem try_part {xe : Str} {p1 p2 p3 p4 p5 p6 p7 p8 : Pos} {kk : Nat} {Q : Flow → Shared → Prop} (hu : A.units + 60 < cLine) (hh : A.handled = none) (T : Names base mg mb) (hst : base.StaysIn s.heap)
    (hlen : mg "len" = none) (hset : mg "set" = none) (hlenk : env.kindOf "len" = some .globalImplicit) (hsetk : env.kindOf "set" = some .globalImplicit)
    (hg : env.globals = mainGlobals) (hb : env.builtins = builtinsNs) (hk : env.scope.kind = .function) (hxk : env.kindOf xe = some .local) (hxd : (xe == ("__debug__" : Str)) = false)
    (hn : s.heap.Ns env.locals m) (hm : m xe = some (.ref D)) (hD : s.heap.IsTuple D vs.toArray) (hpv : PVs prog w s.heap vs cs) (h4 : cs.length ≤ 4)
    (hok : ∀ h' tk, (∀ b o, s.heap.get? b = some o → h'.get? b = some o) → Q (.ret (.bool (allEq cs))) { s with heap := h', toks := tk })
    (hbad : ∀ h' tk e, (∃ c ∈ cs, c.hashable = false) → Heap.NewExc s.heap h' e "TypeError" → E (.ref e) { s with heap := h', toks := tk }) :
    wpAny (model prog w) A (execs [.Return (some (.Compare (.Call (.Name "len" p1) [.Call (.Name "set" p2) [.Name xe p3] [] p4] [] p5) [.Eq] [.Constant (.int 1) kk p6] p7)) p8] env) Q E s := by
  refine wpAny_execs_cons (wpAny_Return_some (wpAny_Compare1 ?_))
  refine Call_ (name_built T hst hlen PyProof.Rows.bootS_len (by decide) hg hb hk hlenk (by decide) ?_)
  refine callWith_builtin1 (he := rfl) (hplain := rfl) (args_cons (he := rfl) ?_)
  refine Call_ (name_built T hst hset PyProof.Rows.boot_set (by decide) hg hb hk hsetk (by decide) ?_)
  refine callWith_type1 (he := rfl) (hplain := rfl) (args_cons (he := rfl) (wpAny_Name (wpAny_loadName_local hk hxk hn hm ?_) hxd))
  refine args_nil ?_
  refine call_set_pv (by omega) hh hD hpv h4 (fun h' tk S _ hk' hS X => ?_) hbad
  refine args_nil ?_
  refine call_len_setIs (s := { s with heap := h', toks := tk }) X fun n t tk' hnk hn4 => ?_
  refine wpAny_Constant_int ?_
  refine PyProof.Rows.eq_int ?_
  have e : ((n : Nat) == (1 : Int)) = allEq cs := by
    rw [← allEq_cnt cs]
    cases hc : cs.foldl Cnt.add .zero with
    | zero => rw [hc] at hnk; dsimp only at hnk; subst hnk; rfl
    | one d => rw [hc] at hnk; dsimp only at hnk; subst hnk; rfl
    | many => rw [hc] at hnk; dsimp only at hnk; rw [beq_eq_false_iff_ne]; omega
  rw [e]
  exact hok h' _ hk'

set_option maxHeartbeats 1000000 in
theorem ident_body {xe xa xb : Str} {p1 p2 p3 p4 p5 p6 p7 p8 q1 q2 q3 r1 r2 r3 r4 r5 r6 r7 t1 t2 t3 t4 t5 t6 u1 u2 v1 v2 v3 v4 : Pos} {kk k1 k2 k3 k4 : Nat} {Q : Flow → Shared → Prop} (hu : A.units + 60 < cLine) (hh : A.handled = none)
    (hfr : A.frames = some (env :: envs)) (hff : s.heap.FunFrames base (env :: envs)) (hf : env.frame = some env.locals) (T : Names base mg mb) (hst : base.StaysIn s.heap)
    (hlen : mg "len" = none) (hset : mg "set" = none) (hzip : mg "zip" = none) (hte : mg "TypeError" = none)
    (hlenk : env.kindOf "len" = some .globalImplicit) (hsetk : env.kindOf "set" = some .globalImplicit) (hzipk : env.kindOf "zip" = some .globalImplicit) (htek : env.kindOf "TypeError" = some .globalImplicit)
    (hg : env.globals = mainGlobals) (hb : env.builtins = builtinsNs) (hk : env.scope.kind = .function) (hxk : env.kindOf xe = some .local) (hxd : (xe == ("__debug__" : Str)) = false)
    (hak : env.kindOf xa = some .local) (had : (xa == ("__debug__" : Str)) = false) (hbk : env.kindOf xb = some .local) (hbd : (xb == ("__debug__" : Str)) = false) (hab : xa ≠ xb)
    (hn : s.heap.Ns env.locals m) (hm : m xe = some (.ref D)) (hD : s.heap.IsTuple D vs.toArray) (hDf : D ∉ (env :: envs).filterMap (·.frame)) (hpvb : PVs prog w base vs cs) (h4 : cs.length ≤ 4)
    (h : ∀ h' tk, (∀ b o, b ∉ (env :: envs).filterMap (·.frame) → s.heap.get? b = some o → h'.get? b = some o) →
      (∀ b o, b ≠ env.locals → s.heap.get? b = some o → (∀ vs, o.data ≠ .fields vs) → ∃ sl, h'.get? b = some { o with slots := sl }) → Q (.ret (.bool (allEq cs))) { s with heap := h', toks := tk }) :
    wpAny (model prog w) A (execs [.Try [.Return (some (.Compare (.Call (.Name "len" p1) [.Call (.Name "set" p2) [.Name xe p3] [] p4] [] p5) [.Eq] [.Constant (.int 1) kk p6] p7)) p8]
      [.ExceptHandler (some (.Name "TypeError" q1)) none
        [.For (.Tuple [.Name xa t1, .Name xb t2] k1 t3) (.Call (.Name "zip" r1) [.Name xe r2, .Subscript (.Name xe r3) (.Slice (some (.Constant (.int 1) k2 r4)) none none r5) r6] [] r7)
          [.If (.Compare (.Name xa u1) [.NotEq] [.Name xb u2] t4) [.Return (some (.Constant (.bool false) k3 t5)) t6] [] v1] [] v2,
         .Return (some (.Constant (.bool true) k4 v3)) v4] q2] [] [] q3] env) Q E s := by
  have hpv : PVs prog w s.heap vs cs := hpvb.map fun v c y => y.keeps hst
  refine wpAny_execs_cons (wpAny_Try_except ?_)
  refine try_part hu hh T hst hlen hset hlenk hsetk hg hb hk hxk hxd hn hm hD hpv h4 (fun h' tk k => ?_) (fun h₁ tk e hbadc x => ?_)
  · exact h h' tk (fun b o _ q => k b o q) fun b o _ q _ => ⟨o.slots, k b o q⟩
  · have hff₁ : h₁.FunFrames base (env :: envs) := hff.of_keeps fun b o q _ => ⟨o, x.keeps b o q, rfl⟩
    refine caught (s := { s with heap := h₁, toks := tk }) hfr hff₁ hst hf x T hte PyProof.Rows.Boot.«TypeError» (by decide) hg hb hk htek (by decide) fun h₂ E₂ k₂ u₂ f₂ H₂ hen => ?_
    -- the handler
    obtain ⟨hv1, hcne⟩ := hpv.notEmpty hbadc
    have hLf : env.locals ∈ (env :: envs).filterMap (·.frame) := List.mem_filterMap.mpr ⟨env, .head _, hf⟩
    have n₂ : h₂.Ns env.locals m := Heap.UpToSlots.ns u₂ hn
    have hst₂ : base.StaysIn h₂ := fun b o q => k₂ b o (fun hm' => by rw [(hff.mem hm').1] at q; cases q) (hst b o q)
    have D₂ : h₂.IsTuple D vs.toArray := by obtain ⟨o, q, r⟩ := hD; exact ⟨o, k₂ _ _ hDf q, r⟩
    have pv₂ : PVs prog w h₂ vs cs := hpvb.map fun v c y => y.keeps hst₂
    have hlen4 : vs.length ≤ 4 := by rw [hpv.length]; exact h4
    refine wpAny_execs_cons (wpAny_For (hs := fun _ => rfl) ?_)
    refine zip_head (s := { s with heap := h₂, toks := tk }) T hst₂ hzip hzipk hg hb hk hxk hxd n₂ hm D₂ hv1 hlen4 fun h₃ tk₃ D2 z TI TO i1 i2 d1 d2 d3 ap q1 q2 q3 q4 q5 q6 q7 k₃ => ?_
    refine wpAny_pyIter_zip (s := { s with heap := h₃, toks := tk₃ }) q1 ?_
    have hLlt : @LT.lt Nat _ env.locals h₂.objs.size := by obtain ⟨_, _, _, q, _⟩ := n₂; exact Heap.lt_size q
    have d1' : @LE.le Nat _ h₂.objs.size D2 := d1
    have big : ∀ a ∈ [z, TI, TO, i1, i2], @LT.lt Nat _ h₂.objs.size a := fun a ha => Nat.lt_of_le_of_lt d1' (d3 a ha)
    have hDlt : @LT.lt Nat _ D h₂.objs.size := by obtain ⟨_, q, _⟩ := D₂; exact Heap.lt_size q
    have fresh₂ : ∀ a ∈ [z, TI, TO, i1, i2], h₂.get? a = none := fun a ha => Heap.get?_none_of_le (Nat.le_of_lt (big a ha))
    have H₃ : HandledOk (A.mark (some (.ref e))) h₃ := H₂.grow k₃
    have hOut : ∀ c o, c ∉ (env :: envs).filterMap (·.frame) → s.heap.get? c = some o → c ∉ [z, TO, i1, i2, env.locals] := fun c o hc q hm' => by
      have q2 := k₂ c o hc q
      simp only [List.mem_cons, List.not_mem_nil, or_false] at hm'
      rcases hm' with r | r | r | r | r
      · rw [r, fresh₂ z (by simp)] at q2; cases q2
      · rw [r, fresh₂ TO (by simp)] at q2; cases q2
      · rw [r, fresh₂ i1 (by simp)] at q2; cases q2
      · rw [r, fresh₂ i2 (by simp)] at q2; cases q2
      · exact hc (r ▸ hLf)
    have done : ∀ h₄ tk₄, (∀ c o, c ∉ [z, TO, i1, i2, env.locals] → h₃.get? c = some o → h₄.get? c = some o) → Q (.ret (.bool (allEq cs))) { s with heap := h₄, toks := tk₄ } := fun h₄ tk₄ k₄ =>
      h h₄ tk₄ (fun b o hb' q => k₄ b o (hOut b o hb' q) (k₃ b o (k₂ b o hb' q))) (fun b o hb' q hnf => by
        obtain ⟨sl, q2⟩ := u₂ b o q hnf
        refine ⟨sl, k₄ b _ (fun hm' => ?_) (k₃ b _ q2)⟩
        simp only [List.mem_cons, List.not_mem_nil, or_false] at hm'
        rcases hm' with r | r | r | r | r
        · rw [r, fresh₂ z (by simp)] at q2; cases q2
        · rw [r, fresh₂ TO (by simp)] at q2; cases q2
        · rw [r, fresh₂ i1 (by simp)] at q2; cases q2
        · rw [r, fresh₂ i2 (by simp)] at q2; cases q2
        · exact hb' r)
    refine zip_loop (A := A.mark (some (.ref e))) (s₀ := { s with heap := h₃, toks := tk₃ }) (by show A.units + 8 < cLine; omega) hk hak hbk hab had hbd ap ?hL (pv₂.map fun v c y => y.keeps k₃) ?hown ?hTO ?hret ?hnext H₃ ?hHo q1 q2 ⟨_, _, q3⟩ q4 q5 q6 q7 (n₂.keeps k₃) (fun _ _ _ q => q)
    case hL =>
      intro hm'
      simp only [List.mem_cons, List.not_mem_nil, or_false] at hm'
      have b1 := big z (by simp); have b2 := big TI (by simp); have b3 := big TO (by simp); have b4 := big i1 (by simp); have b5 := big i2 (by simp)
      rcases hm' with r | r | r | r | r | r | r
      · rw [r] at hLlt; exact Nat.lt_asymm b1 hLlt
      · rw [r] at hLlt; exact Nat.lt_asymm b2 hLlt
      · rw [r] at hLlt; exact Nat.lt_asymm b3 hLlt
      · rw [r] at hLlt; exact Nat.lt_asymm b4 hLlt
      · rw [r] at hLlt; exact Nat.lt_asymm b5 hLlt
      · exact hDf (r ▸ hLf)
      · rw [r] at hLlt; exact Nat.lt_irrefl _ (Nat.lt_of_lt_of_le hLlt d1')
    case hown =>
      intro a ha o q its n hd
      simp only [List.mem_cons, List.not_mem_nil, or_false] at ha
      rcases ha with r | r | r | r
      · rw [r, q1] at q; cases q; cases hd
      · obtain ⟨o', p1, _, p2⟩ := q4; rw [r, p1] at q; cases q; rw [p2] at hd; cases hd
      · obtain ⟨o', p1, _, p2⟩ := q5; rw [r, p1] at q; cases q; rw [p2] at hd; cases hd
      · obtain ⟨o', es, ep, p1, p2, _⟩ := n₂.keeps k₃; rw [r, p1] at q; cases q; rw [p2] at hd; cases hd
    case hTO =>
      intro v c y r
      subst r
      cases y with
      | tup a b c' d =>
        rw [q3] at a; cases a; cases c'
        cases d with
        | @cons k _ _ _ p1 _ => exact absurd (show Value.isStrOf k Value.none = true from p1) (by simp [Value.isStrOf])
      | lst a b c' d => rw [q3] at a; cases a; exact absurd b (by decide)
    case hret =>
      intro h₄ tk₄ m' hex k₄ _
      rw [← not_allEq hex]
      exact done h₄ tk₄ k₄
    case hnext =>
      intro h₄ tk₄ m' hall k₄ _
      refine wpAny_execs_cons (wpAny_Return_some (wpAny_Constant_bool ?_))
      rw [← allEq_chain hall hcne]
      exact done h₄ tk₄ k₄
    case hHo =>
      intro e' he' hm'
      have hv' : (some (Value.ref e)).or A.handled = some (.ref e') := he'
      have : e = e' := by simpa using hv'
      subst this
      obtain ⟨e1, o, ws, r1, r2, r3, _⟩ := H₂ (.ref e) he'
      cases r1
      simp only [List.mem_cons, List.not_mem_nil, or_false] at hm'
      rcases hm' with r | r | r | r | r
      · rw [r, fresh₂ z (by simp)] at r2; cases r2
      · rw [r, fresh₂ TO (by simp)] at r2; cases r2
      · rw [r, fresh₂ i1 (by simp)] at r2; cases r2
      · rw [r, fresh₂ i2 (by simp)] at r2; cases r2
      · obtain ⟨o', es, ep, p1, p2, _⟩ := n₂; rw [r, p1] at r2; cases r2; rw [p2] at r3; cases r3
end
end Mine

namespace Mine
/-- all stays but the frames' slots -/
def FK (fr : List Addr) (h h' : Heap) : Prop :=
  (∀ b o, b ∉ fr → h.get? b = some o → h'.get? b = some o) ∧ ∀ b o, h.get? b = some o → (∀ vs, o.data ≠ .fields vs) → ∃ sl, h'.get? b = some { o with slots := sl }
theorem FK.of_keeps {fr : List Addr} {h h' : Heap} (k : ∀ b o, h.get? b = some o → h'.get? b = some o) : FK fr h h' := ⟨fun b o _ q => k b o q, fun b o q _ => ⟨o.slots, k b o q⟩⟩
theorem FK.trans {fr : List Addr} {h h' h'' : Heap} (x : FK fr h h') (y : FK fr h' h'') : FK fr h h'' :=
  ⟨fun b o hb q => y.1 b o hb (x.1 b o hb q), fun b o q hn => by
    obtain ⟨sl, q1⟩ := x.2 b o q hn
    obtain ⟨sl', q2⟩ := y.2 b _ q1 hn
    exact ⟨sl', q2⟩⟩

def restParams (first : List Arg) (xe : Arg) : Arguments := { posonlyargs := [], args := first, vararg := some xe, kwonlyargs := [], kw_defaults := [], kwarg := none, defaults := [] }

theorem bind_rest0 {prog : Program} {w : World} {name qual : Str} {body : List Stmt} {scope : Scope} {doc pm cdv ct : Value} {an : Option Addr} {xe : Arg} {vs : List Value} (h : vs.length ≤ 4) :
    peek1 [] ⟨prog, w.params⟩ (bindArgs (fnOf name qual (restParams [] xe) body scope .none .none doc pm an cdv ct) ⟨vs, []⟩) = some (({ cls := .type "tuple", data := .seq vs.toArray } : Obj), fun D => some [(xe.arg, .ref D)]) := by
  match vs, h with
  | [], _ => rfl
  | [_], _ => rfl
  | [_, _], _ => rfl
  | [_, _, _], _ => rfl
  | [_, _, _, _], _ => rfl
  | _ :: _ :: _ :: _ :: _ :: _, h => exact absurd h (by simp)
theorem bind_rest1 {prog : Program} {w : World} {name qual : Str} {body : List Stmt} {scope : Scope} {doc pm cdv ct : Value} {an : Option Addr} {xe : Arg} {sp : Pos} {sv : Value} {vs : List Value} (h : vs.length ≤ 4) :
    peek1 [] ⟨prog, w.params⟩ (bindArgs (fnOf name qual (restParams [⟨"self", none, sp⟩] xe) body scope .none .none doc pm an cdv ct) ⟨sv :: vs, []⟩) = some (({ cls := .type "tuple", data := .seq vs.toArray } : Obj), fun D => some [(("self" : Str), sv), (xe.arg, .ref D)]) := by
  match vs, h with
  | [], _ => rfl
  | [_], _ => rfl
  | [_, _], _ => rfl
  | [_, _, _], _ => rfl
  | [_, _, _, _], _ => rfl
  | _ :: _ :: _ :: _ :: _ :: _, h => exact absurd h (by simp)

section
variable {prog : Program} {w : World} {A : Around} {s : Shared} {envs : List Env} {base : Heap} {mg mb : Str → Option Value} {R : Result → Shared → Prop} {vs : List Value} {cs : List Cont}

theorem envOf_kind {qual : Str} {scope : Scope} {L f : Addr} {cd : Value} {x : Str} {k : NameKind} (h : scope.names.lookup x = some k) : (envOf qual scope L f cd).kindOf x = some k := h

theorem ident_c {name qual : Str} {scope : Scope} {doc pm cdv ct : Value} {an : Option Addr} {o : Obj} {f : Addr} {xe : Arg}
    {xa xb : Str} {p1 p2 p3 p4 p5 p6 p7 p8 q1 q2 q3 r1 r2 r3 r4 r5 r6 r7 t1 t2 t3 t4 t5 t6 u1 u2 v1 v2 v3 v4 : Pos} {kk k1 k2 k3 k4 : Nat}
    (S : FS A envs base s.heap) (T : Names base mg mb) (hlim : base.NoLimit) (hroom : A.depth < recursionLimit) (hu : A.units + 70 < cLine) (hh : A.handled = none)
    (ho : base.get? f = some o)
    (hd : o.data = .func (fnOf name qual (restParams [] xe) [.Try [.Return (some (.Compare (.Call (.Name "len" p1) [.Call (.Name "set" p2) [.Name xe.arg p3] [] p4] [] p5) [.Eq] [.Constant (.int 1) kk p6] p7)) p8]
      [.ExceptHandler (some (.Name "TypeError" q1)) none
        [.For (.Tuple [.Name xa t1, .Name xb t2] k1 t3) (.Call (.Name "zip" r1) [.Name xe.arg r2, .Subscript (.Name xe.arg r3) (.Slice (some (.Constant (.int 1) k2 r4)) none none r5) r6] [] r7)
          [.If (.Compare (.Name xa u1) [.NotEq] [.Name xb u2] t4) [.Return (some (.Constant (.bool false) k3 t5)) t6] [] v1] [] v2,
         .Return (some (.Constant (.bool true) k4 v3)) v4] q2] [] [] q3] scope .none .none doc pm an cdv ct))
    (hcd : base.CodeRec cdv qual) (hco : scope.isCoroutine = false) (hgen : scope.isGenerator = false) (hk : scope.kind = .function) (hcell : ∀ x ∈ scope.names, x.2 ≠ .cell)
    (hlen : mg "len" = none) (hset : mg "set" = none) (hzip : mg "zip" = none) (hte : mg "TypeError" = none)
    (hlenk : scope.names.lookup ("len" : Str) = some .globalImplicit) (hsetk : scope.names.lookup ("set" : Str) = some .globalImplicit) (hzipk : scope.names.lookup ("zip" : Str) = some .globalImplicit) (htek : scope.names.lookup ("TypeError" : Str) = some .globalImplicit)
    (hxk : scope.names.lookup xe.arg = some .local) (hxd : (xe.arg == ("__debug__" : Str)) = false)
    (hak : scope.names.lookup xa = some .local) (had : (xa == ("__debug__" : Str)) = false) (hbk : scope.names.lookup xb = some .local) (hbd : (xb == ("__debug__" : Str)) = false) (hab : xa ≠ xb)
    (hpv : PVs prog w base vs cs) (h4 : cs.length ≤ 4)
    (k : ∀ h' tk, FK (envs.filterMap (·.frame)) s.heap h' → R (.ok (.ret (.bool (allEq cs)))) { s with heap := h', toks := tk }) :
    codeAny (model prog w) A (.call (.ref f) ⟨vs, []⟩) R s := by
  have h4' : vs.length ≤ 4 := by rw [hpv.length]; exact h4
  refine enter_rest (binds := fun D => [(xe.arg, .ref D)]) S ho hd hcd hlim hroom (bind_rest0 h4') (fun _ => rfl) (fun D y hy => ?_) (fun D L' h₁ tk st₁ ff₁ k₁ hD hDL hDn hLn hn => ?_) hco hgen hk hcell
  · rw [List.mem_singleton] at hy; subst hy; exact hxk
  · have hfrs : ∀ b ∈ envs.filterMap (·.frame), base.get? b = none ∧ ∃ o, s.heap.get? b = some o ∧ ∀ vs, o.data ≠ .fields vs := fun b hb => S.ff.mem hb
    have hout : ∀ b o, b ∉ envs.filterMap (·.frame) → s.heap.get? b = some o → b ∉ (envOf qual scope L' f cdv :: envs).filterMap (·.frame) := fun b o hb q hm => by
      rw [List.filterMap_cons_some (show (envOf qual scope L' f cdv).frame = some L' from rfl)] at hm
      rcases List.mem_cons.mp hm with r | r
      · rw [r, hLn] at q; cases q
      · exact hb r
    refine ident_body (s := { s with heap := h₁, toks := tk }) (env := envOf qual scope L' f cdv) (D := D) (cs := cs) (by show A.units + 3 + 60 < cLine; omega) hh (by show A.frames.map (envOf qual scope L' f cdv :: ·) = _; rw [S.fr]; rfl) ff₁ rfl T st₁ hlen hset hzip hte
      hlenk hsetk hzipk htek rfl rfl hk hxk hxd hak had hbk hbd hab hn (by simp) ⟨_, hD, rfl, _, rfl⟩ (fun hm => ?_) hpv h4 fun h' tk' kk uu => ?_
    · rw [List.filterMap_cons_some (show (envOf qual scope L' f cdv).frame = some L' from rfl)] at hm
      rcases List.mem_cons.mp hm with r | r
      · exact hDL r
      · obtain ⟨_, o, q, _⟩ := hfrs D r
        rw [hDn] at q; cases q
    · refine k h' tk' ⟨fun b o hb q => kk b o (hout b o hb q) (k₁ b o q), fun b o q hnf => uu b o (fun r => ?_) (k₁ b o q) hnf⟩
      have r' : b = L' := r
      rw [r', hLn] at q; cases q
end
end Mine

namespace Mine
section
variable {prog : Program} {w : World} {A : Around} {E : Value → Shared → Prop} {s : Shared} {R : Result → Shared → Prop} {vs : List Value} {cs : List Cont}

def allFull (cs : List Cont) : Bool := cs.all fun c => decide (c.len ≠ 0)

theorem all_loop_pv {I D : Addr} {h0 : Heap} (hI : h0.get? I = none) (hD : h0.IsTuple D vs.toArray) (hh : A.handled = none) : ∀ (cs : List Cont) (i : Nat) (s : Shared), PVs prog w h0 (vs.drop i) cs → s.heap.IsTupleIter I D i →
    (∀ b o, h0.get? b = some o → s.heap.get? b = some o) →
    (∀ h' tk, (∀ b o, h0.get? b = some o → h'.get? b = some o) → R (.ok (.ret (.bool (allFull cs)))) { s with heap := h', toks := tk }) →
    codeAny (model prog w) A (.builtin "all.loop" ⟨[.ref I], []⟩) R s := by
  have hne : D ≠ I := fun e => by obtain ⟨o, q, _⟩ := hD; rw [e, hI] at q; cases q
  have W := Walks.tuple (prog := prog) (w := w) (A := A.in1) hh I D hne vs.toArray
  intro cs
  induction cs with
  | nil =>
    intro i s hp hit k hR
    have hl : vs.length ≤ i := by have := hp.length; simp at this; omega
    have hge : vs.toArray[i]? = none := by
      rw [List.getElem?_toArray]
      exact List.getElem?_eq_none hl
    refine codeAny_builtin F.entry_all_loop ?_
    rw [Around.under_plainId F.plain_all_loop _]
    show wpAny _ A.in1 (pyNext (.ref I) >>= _) _ _ s
    have hD' : s.heap.IsTuple D vs.toArray := by obtain ⟨o, q, r⟩ := hD; exact ⟨o, k _ _ q, r⟩
    refine wpAny_bind (wpAny_pyNext_tuple_end hh hit hD' hge fun h' he' => ?_)
    refine wpAny_bind (wpAny_rule (wpAny_pure ?_))
    exact hR h' s.toks fun b o e => he' b o (fun hm => by subst hm; rw [hI] at e; cases e) (k b o e)
  | cons c cs ih =>
    intro i s hp hit k hR
    generalize hd : vs.drop i = l at hp
    cases hp with
    | @cons v _ vs' _ p q r =>
      have hv : vs.toArray[i]? = some v := by
        rw [List.getElem?_toArray]
        have : (vs.drop i)[0]? = some v := by rw [hd]; rfl
        simpa using this
      have hr : vs.drop (i + 1) = vs' := by
        have := congrArg List.tail hd
        simpa using this
      refine codeAny_builtin F.entry_all_loop ?_
      rw [Around.under_plainId F.plain_all_loop _]
      show wpAny _ A.in1 (pyNext (.ref I) >>= _) _ _ s
      have hD' : s.heap.IsTuple D vs.toArray := by obtain ⟨o, q, r⟩ := hD; exact ⟨o, k _ _ q, r⟩
      refine wpAny_bind (wpAny_pyNext_tuple_item hit hD' hv fun h' hit' hs' => ?_)
      have k' : ∀ b o, h0.get? b = some o → h'.get? b = some o := fun b o e => hs'.extBut b o (fun hm => by subst hm; rw [hI] at e; cases e) (k b o e)
      refine wpAny_bind (wpAny_holding (pv_truthy (s := { s with heap := h' }) (p.keeps k') q fun tk => ?_))
      refine wpAny_bind (wpAny_letGo ?_)
      by_cases hb : c.len ≠ 0
      · simp only [decide_eq_true hb, if_true]
        refine wpAny_pure ?_
        refine ⟨plainId_quiet F.plain_all_loop _, ih (i + 1) { s with heap := h', toks := tk } (by rw [hr]; exact r) hit' k' fun h'' tk' k'' => ?_⟩
        have := hR h'' tk' k''
        simp only [allFull, List.all_cons, decide_eq_true hb, Bool.true_and] at this
        exact this
      · simp only [decide_eq_false hb]
        refine wpAny_bind (wpAny_rule (wpAny_pure ?_))
        have := hR h' tk k'
        simp only [allFull, List.all_cons, decide_eq_false hb, Bool.false_and] at this
        exact this

theorem call_all_pv {D : Addr} {Q : Value → Shared → Prop} (hh : A.handled = none) (hD : s.heap.IsTuple D vs.toArray) (hp : PVs prog w s.heap vs cs)
    (h : ∀ h' tk, (∀ b o, s.heap.get? b = some o → h'.get? b = some o) → Q (.bool (allFull cs)) { s with heap := h', toks := tk }) :
    wpAny (model prog w) A (call (.builtin "all") [.ref D]) Q E s := by
  refine call_function_tree F.kind_all F.plain_all F.entry_all (F.args_all1 _) ?_
  unfold Builtin.«all»
  refine wpAny_bind (m := oneArg "all" _) (wpAny_pure ?_)
  refine wpAny_bind (wpAny_pyIter_tuple hD ?_)
  refine wpAny_pure ⟨plainId_quiet F.plain_all_loop _, ?_⟩
  exact all_loop_pv (h0 := s.heap) (I := s.heap.objs.size) (D := D) (Heap.get?_none_of_le (Nat.le_refl _)) hD hh cs 0 { s with heap := _ } hp
    ⟨_, Heap.get?_push_size _ rfl, rfl, rfl⟩ (fun b o e => Heap.get?_push_of_some _ e) h
end
end Mine

namespace Mine
theorem owner_map : Manifest.owners.lookup (String.ofList ['p', 'a', 'm'].reverse) = some Manifest.sig_map := by kernel_rfl
theorem slot_map_init : Slot "map" "__init__" "object.__init__" :=
  .of (owner := "object") (n := "__init__") (by rw [typeLookup_type, builtinLookup_eq_fast]; kernel_rfl) (by decide +kernel) (by decide +kernel) (by decide +kernel)
    (by first | exact .inl (by decide +kernel) | exact .inr (by decide +kernel)) (by rw [isSubtype_type]; kernel_rfl)
theorem slot_map_iter : Slot "map" "__iter__" "map.__iter__" :=
  .of (owner := "map") (n := "__iter__") (by rw [typeLookup_type, builtinLookup_eq_fast]; kernel_rfl) (by decide +kernel) (by decide +kernel) (by decide +kernel)
    (by first | exact .inl (by decide +kernel) | exact .inr (by decide +kernel)) (by rw [isSubtype_type]; kernel_rfl)
theorem slot_map_next : Slot "map" "__next__" "map.__next__" :=
  .of (owner := "map") (n := "__next__") (by rw [typeLookup_type, builtinLookup_eq_fast]; kernel_rfl) (by decide +kernel) (by decide +kernel) (by decide +kernel)
    (by first | exact .inl (by decide +kernel) | exact .inr (by decide +kernel)) (by rw [isSubtype_type]; kernel_rfl)
theorem args_map_iter (a : Value) : argsOk "map.__iter__" ⟨[a], []⟩ := by
  unfold argsOk; rw [signature?_of (id := "map.__iter__") (n := ['_', '_', 'r', 'e', 't', 'i', '_', '_']) (o := ['p', 'a', 'm']) (by kernel_rfl) owner_map]; kernel_rfl
theorem args_map_next (a : Value) : argsOk "map.__next__" ⟨[a], []⟩ := by
  unfold argsOk; rw [signature?_of (id := "map.__next__") (n := ['_', '_', 't', 'x', 'e', 'n', '_', '_']) (o := ['p', 'a', 'm']) (by kernel_rfl) owner_map]; kernel_rfl
theorem entry_map_next : entryFor table "map.__next__" = some Builtin.«map.__next__» := entryFor_of_tree (by kernel_rfl)
theorem entry_map_iter : entryFor table "map.__iter__" = some Builtin.«dict_keyiterator.__iter__» :=
  entryFor_alias (id' := "dict_keyiterator.__iter__") (by kernel_rfl) (by first | rfl | decide +kernel | (unfold String.splitOn; simp +decide [String.splitOnAux])) (by decide +kernel) (by kernel_rfl)
theorem mro_map : mroOf (.type "map") = pure [.type "map", .type "object"] := by rw [mroOf_type]; kernel_rfl
theorem lookup_map_new : typeLookup (.type "map") "__new__" = pure (some (.builtin "map.__new__")) := by rw [typeLookup_type, builtinLookup_eq_fast]; kernel_rfl
theorem called_map : TypeCalled "map" "map.__new__" "object.__init__" :=
  ⟨by decide +kernel, by decide +kernel, ⟨_, _, mro_map⟩, madeBy_type mro_map lookup_map_new (by decide +kernel), by decide +kernel, by rw [isSubtype_type]; kernel_rfl, slot_map_init⟩
theorem typeCall_map_2 (a b : Value) : checkTypeCall "map" ⟨[a, b], []⟩ = pure () := by kernel_rfl
theorem newCall_map_2 (a b : Value) : checkBuiltinCall "map.__new__" ⟨[.type "map", a, b], []⟩ = pure () := by kernel_rfl
theorem entry_map_new : entryFor table "map.__new__" = some Builtin.«map.__new__» := entryFor_of_tree (by kernel_rfl)
theorem sub_map : isSubtype (.type "map") (.type "map") = pure true := by rw [isSubtype_type]; kernel_rfl

abbrev mp1 (h : Heap) (D : Addr) : Heap := h.push { cls := .type "tuple_iterator", data := .fields #[.ref D, .int 0 0] }
abbrev mp2 (h : Heap) (D : Addr) : Heap := (mp1 h D).push { cls := .type "tuple", data := .seq #[.ref h.objs.size] }
abbrev mp3 (h : Heap) (f : Value) (D : Addr) : Heap := (mp2 h D).push { cls := .type "map", data := .fields #[.ref (mp1 h D).objs.size, f] }

theorem meets_map_new (f : Value) (D : Addr) (xs : Array Value) :
    Meets (Builtin.«map.__new__» ⟨[.type "map", f, .ref D], []⟩) (fun _ R s => s.heap.IsTuple D xs ∧ R (.ok (.ret (.ref (mp2 s.heap D).objs.size))) { s with heap := mp3 s.heap f D }) :=
  .of_wp fun prog w A R s h => by
    obtain ⟨hp, g, d, tk, os⟩ := s; obtain ⟨hl, h⟩ := h
    have hsub := sub_map
    have hL : Heap.IsTuple (Shared.heap ⟨hp, g, d, tk, os⟩) D xs := hl
    wp_walk using wpAny_pyIter_tuple hL
    exact ⟨_, rfl, h⟩

abbrev IsMap (h : Heap) (m TI : Addr) (f : Value) : Prop := h.get? m = some { cls := .type "map", dict := none, data := .fields #[.ref TI, f], slots := #[] }
abbrev IsOne (h : Heap) (T : Addr) (a : Value) : Prop := h.get? T = some { cls := .type "tuple", data := .seq #[a] }

section
variable {prog : Program} {w : World} {A : Around} {E : Value → Shared → Prop} {s : Shared}

theorem call_map_tuple {f : Value} {D : Addr} {xs : Array Value} {Q : Value → Shared → Prop} (hl : s.heap.IsTuple D xs)
    (h : ∀ h' m TI i, m = s.heap.objs.size + 2 → TI = s.heap.objs.size + 1 → i = s.heap.objs.size → h'.objs.size = s.heap.objs.size + 3 → IsMap h' m TI f → IsOne h' TI (.ref i) → h'.IsTupleIter i D 0 →
      (∀ c o, s.heap.get? c = some o → h'.get? c = some o) → Q (.ref m) { s with heap := h' }) :
    wpAny (model prog w) A (call (.type "map") [f, .ref D]) Q E s := by
  refine callType_new called_map (by decide) (typeCall_map_2 _ _) (newCall_map_2 _ _) (fun obj => F.args_object_init_3 obj _ _) entry_map_new (meets_map_new f D xs) ⟨hl, ?_⟩
  have z1 : (mp1 s.heap D).objs.size = s.heap.objs.size + 1 := Heap.size_push ..
  have z2 : (mp2 s.heap D).objs.size = s.heap.objs.size + 2 := by rw [Heap.size_push, z1]
  have z3 : (mp3 s.heap f D).objs.size = s.heap.objs.size + 3 := by rw [Heap.size_push, z2]
  have g3 : (mp3 s.heap f D).get? (mp2 s.heap D).objs.size = some _ := Heap.get?_push_size _ rfl
  have g2 : (mp3 s.heap f D).get? (mp1 s.heap D).objs.size = some _ := Heap.get?_push_of_some _ (Heap.get?_push_size _ rfl)
  have g1 : (mp3 s.heap f D).get? s.heap.objs.size = some _ := Heap.get?_push_of_some _ (Heap.get?_push_of_some _ (Heap.get?_push_size _ rfl))
  show _ ∧ _
  rw [z1, z2] at g3
  rw [z1] at g2
  rw [z2]
  exact ⟨⟨_, g3, rfl⟩, h _ _ _ _ rfl rfl rfl z3 g3 g2 ⟨_, g1, rfl, rfl⟩ fun c o x => Heap.get?_push_of_some _ (Heap.get?_push_of_some _ (Heap.get?_push_of_some _ x))⟩
end
end Mine

namespace Mine
def mostC : List Cont → Int
  | [] => 0
  | c :: r => max c.len (mostC r)
def lenAt (cs : List Cont) (i : Nat) : Int := ((cs[i]?).map fun c => (c.len : Int)).getD 0
theorem len_nonneg (c : Cont) : (0 : Int) ≤ (c.len : Int) := Int.natCast_nonneg _
theorem mostC_ge : ∀ (cs : List Cont) (i : Nat), i < cs.length → lenAt cs i ≤ mostC cs
  | [], i, h => absurd h (Nat.not_lt_zero _)
  | c :: r, 0, _ => by simp only [lenAt, List.getElem?_cons_zero, Option.map_some, Option.getD_some, mostC]; exact Int.le_max_left ..
  | c :: r, i + 1, h => by
    have ih := mostC_ge r i (by simpa using h)
    simp only [lenAt, List.getElem?_cons_succ, mostC] at ih ⊢
    exact Int.le_trans ih (Int.le_max_right ..)
theorem mostC_mem : ∀ (cs : List Cont), cs ≠ [] → ∃ i, i < cs.length ∧ mostC cs = lenAt cs i
  | [], h => absurd rfl h
  | [c], _ => ⟨0, by simp, by simp only [mostC, lenAt, List.getElem?_cons_zero, Option.map_some, Option.getD_some]; exact Int.max_eq_left (len_nonneg c)⟩
  | c :: d :: r, _ => by
    obtain ⟨i, hi, e⟩ := mostC_mem (d :: r) (by simp)
    by_cases hc : c.len ≤ mostC (d :: r)
    · refine ⟨i + 1, by simpa using hi, ?_⟩
      rw [mostC, Int.max_eq_right hc, e]; simp [lenAt]
    · refine ⟨0, by simp, ?_⟩
      rw [mostC, Int.max_eq_left (by omega)]; simp [lenAt]
theorem mostC_nil_le (cs : List Cont) : 0 ≤ mostC cs := by
  cases cs with
  | nil => exact Int.le_refl _
  | cons c r => exact Int.le_trans (len_nonneg c) (Int.le_max_left ..)
theorem mostC_best (cs : List Cont) (hn : cs ≠ []) : lenAt cs (argBest (fun i j => decide (lenAt cs i > lenAt cs j)) (cs.length - 1)) = mostC cs := by
  have hl : 0 < cs.length := List.length_pos_iff.mpr hn
  obtain ⟨h1, h2⟩ := argBest_gt (lenAt cs) (cs.length - 1)
  obtain ⟨i, hi, e⟩ := mostC_mem cs hn
  have a := mostC_ge cs _ (show argBest (fun i j => decide (lenAt cs i > lenAt cs j)) (cs.length - 1) < cs.length by omega)
  have b := h2 i (by omega)
  omega

def refOf : Value → Option Addr
  | .ref a => some a
  | _ => none
section
variable {prog : Program} {w : World} {A : Around} {E : Value → Shared → Prop} {s : Shared} {vs : List Value} {cs : List Cont}
theorem PV.on {h h' : Heap} {v : Value} {c : Cont} (k : ∀ a, refOf v = some a → ∀ o, h.get? a = some o → h'.get? a = some o) (x : PV prog w h v c) : PV prog w h' v c := by
  cases x with
  | str x t ht => exact .str x t ht
  | tup a b c d => exact .tup (k _ rfl _ a) b c d
  | lst a b c d => exact .lst (k _ rfl _ a) b c d
theorem PVs.on {h h' : Heap} : ∀ {vs : List Value} {cs : List Cont}, (∀ a ∈ vs.filterMap refOf, ∀ o, h.get? a = some o → h'.get? a = some o) → PVs prog w h vs cs → PVs prog w h' vs cs
  | _, _, _, .nil => .nil
  | _, _, k, .cons p q r => .cons (p.on fun a e => k a (List.mem_filterMap.mpr ⟨_, .head _, e⟩)) q (PVs.on (fun a ha => k a (by
      obtain ⟨v, hv, e⟩ := List.mem_filterMap.mp ha
      exact List.mem_filterMap.mpr ⟨v, .tail _ hv, e⟩)) r)
theorem PV.lt {h : Heap} {v : Value} {c : Cont} (x : PV prog w h v c) : ∀ a, refOf v = some a → a < h.objs.size := by
  cases x with
  | str x t ht => intro a e; cases e
  | tup p b c d => intro a e; cases e; exact Heap.lt_size p
  | lst p b c d => intro a e; cases e; exact Heap.lt_size p
theorem PVs.lt {h : Heap} : ∀ {vs : List Value} {cs : List Cont}, PVs prog w h vs cs → ∀ a ∈ vs.filterMap refOf, a < h.objs.size
  | _, _, .nil, a, ha => by cases ha
  | _, _, .cons p _ r, a, ha => by
    obtain ⟨v, hv, e⟩ := List.mem_filterMap.mp ha
    rcases List.mem_cons.mp hv with q | q
    · subst q; exact p.lt a e
    · exact r.lt a (List.mem_filterMap.mpr ⟨v, q, e⟩)

theorem HandledOk.free {h : Heap} (hh : A.handled = none) : HandledOk A h := fun v hv => by rw [hh] at hv; cases hv

theorem map_next_item {m TI it D : Addr} {i : Nat} {v : Value} {c : Cont} {Q : Value → Shared → Prop} (hm : IsMap s.heap m TI (.builtin "len")) (hT : IsOne s.heap TI (.ref it)) (hi : s.heap.IsTupleIter it D i) (hD : s.heap.IsTuple D vs.toArray)
    (hmne : m ≠ it) (hx : vs[i]? = some v) (hp : ∀ h', (∀ b o, b ≠ it → s.heap.get? b = some o → h'.get? b = some o) → PV prog w h' v c) (hc : c.ok = true)
    (hQ : ∀ h' t tk, h'.IsTupleIter it D (i + 1) → (∀ b o, b ≠ it → s.heap.get? b = some o → h'.get? b = some o) → Q (.int c.len t) { s with heap := h', toks := tk }) :
    wpAny (model prog w) A (Builtin.«map.__next__» ⟨[.ref m], []⟩) (fun fin s' => ∃ v, fin = .done (.ret v) ∧ Q v s') E s := by
  show wpAny _ _ (field (.ref m) 0 >>= _) _ _ _
  refine wpAny_bind (wpAny_field hm rfl (x := .ref TI) rfl ?_)
  refine wpAny_bind (wpAny_seqItems hT rfl ?_)
  simp only [List.forIn_cons, List.forIn_nil, Array.forIn_toList.symm]
  refine wpAny_bind (wpAny_bind (wpAny_bind (wpAny_holding ?_)))
  refine nextOf_item (s := s) hi hD (by simpa using hx) fun g hi' hs' => wpAny_pure ?_
  refine wpAny_pure ?_
  have hm' : IsMap g m TI (.builtin "len") := hs'.extBut _ _ hmne hm
  refine wpAny_bind (wpAny_field hm' rfl (x := .builtin "len") rfl ?_)
  refine wpAny_bind (wpAny_holding (pv_len (s := { s with heap := g }) (hp g fun b o hb q => hs'.extBut b o hb q) hc fun t tk => ?_))
  refine wpAny_bind (wpAny_letGo ?_)
  exact wpAny_pure ⟨_, rfl, hQ g t tk hi' fun b o hb q => hs'.extBut b o hb q⟩

theorem map_next_end {m TI it D : Addr} {i : Nat} {f : Value} {Q : Fin → Shared → Prop} (hh : A.handled = none) (hm : IsMap s.heap m TI f) (hT : IsOne s.heap TI (.ref it)) (hi : s.heap.IsTupleIter it D i) (hD : s.heap.IsTuple D vs.toArray)
    (hx : vs[i]? = none) (hE : ∀ h' e, (∀ b o, b ≠ it → s.heap.get? b = some o → h'.get? b = some o) → (∃ o, h'.get? e = some o ∧ o.cls = .type "StopIteration") → E (.ref e) { s with heap := h' }) :
    wpAny (model prog w) A (Builtin.«map.__next__» ⟨[.ref m], []⟩) Q E s := by
  show wpAny _ _ (field (.ref m) 0 >>= _) _ _ _
  refine wpAny_bind (wpAny_field hm rfl (x := .ref TI) rfl ?_)
  refine wpAny_bind (wpAny_seqItems hT rfl ?_)
  simp only [List.forIn_cons, List.forIn_nil, Array.forIn_toList.symm]
  refine wpAny_bind (wpAny_bind (wpAny_bind (wpAny_holding ?_)))
  exact nextOf_stops (s := s) (.free hh) hi hD (by simpa using hx) hE

theorem walks_map (hh : A.handled = none) {m TI it D : Addr} (hmne : m ≠ it) (hTne : TI ≠ it) (hDne : D ≠ it) (hvs : it ∉ vs.filterMap refOf) (hlen : vs.length = cs.length) :
    Walks prog w A m (m :: TI :: it :: D :: vs.filterMap refOf) [it] cs.length (fun i v => ∃ t, v = .int (lenAt cs i) t)
      (fun i h => IsMap h m TI (.builtin "len") ∧ IsOne h TI (.ref it) ∧ h.IsTupleIter it D i ∧ h.IsTuple D vs.toArray ∧ PVs prog w h vs cs) where
  sub := fun b hb => by simp at hb; simp [hb]
  frame := fun i h h' st k => ⟨k m (by simp) _ st.1, k TI (by simp) _ st.2.1, st.2.2.1.at fun o e => k it (by simp) o e, st.2.2.2.1.at fun o e => k D (by simp) o e,
    st.2.2.2.2.on fun a ha o e => k a (by simp only [List.mem_cons]; exact .inr (.inr (.inr (.inr ha)))) o e⟩
  item := fun i s Q E hi st hQ => by
    obtain ⟨h1, h2, h3, h4, h5⟩ := st
    obtain ⟨v, hv, pv, ok⟩ := h5.at i hi
    have hT : s.TypeIs (.ref m) "map" := ⟨_, h1, rfl⟩
    have hK : ∀ h' : Heap, (∀ b o, b ≠ it → s.heap.get? b = some o → h'.get? b = some o) → PVs prog w h' vs cs := fun h' k => h5.on fun a ha o e => k a o (fun q => by subst q; exact hvs ha) e
    unfold pyNext
    refine wpAny_bind (wpAny_attempt (wpAny_callSpecial?_slot (name := Str.ofString "__next__") hT slot_map_next
      (wpAny_call_entry slot_map_next hT entry_map_next (map_next_item (c := cs[i]) h1 h2 h3 h4 hmne hv (fun h' k => pv.on fun a ea o e => k a o (fun q => by subst q; exact hvs (List.mem_filterMap.mpr ⟨v, List.mem_of_getElem? hv, ea⟩)) e) ok
        fun h' t tk hi' k => ?_) (args_map_next _))))
    refine wpAny_pure (hQ _ h' tk ⟨t, ?_⟩ ⟨k _ _ hmne h1, k _ _ hTne h2, hi', h4.at fun o e => k D o hDne e, hK h' k⟩ fun b o hb e => k b o (fun q => hb (by simp [q])) e)
    simp [lenAt, hi]
  done := fun s Q E st hQ => by
    obtain ⟨h1, h2, h3, h4, h5⟩ := st
    have hT : s.TypeIs (.ref m) "map" := ⟨_, h1, rfl⟩
    unfold pyNext
    refine wpAny_bind (wpAny_attempt (wpAny_callSpecial?_slot (name := Str.ofString "__next__") hT slot_map_next
      (wpAny_call_entry slot_map_next hT entry_map_next (map_next_end hh h1 h2 h3 h4 (by rw [List.getElem?_eq_none]; omega) fun h' e k he => ?_) (args_map_next _))))
    obtain ⟨o, ho, hc⟩ := he
    refine wpAny_bind (wpAny_isInstance (T := "StopIteration") (b := true) ⟨o, ho, hc⟩ isSubtype_stop ?_)
    exact wpAny_pure (hQ h' s.toks fun b o hb e => k b o (fun q => hb (by simp [q])) e)
  self := fun i s Q E st hQ => by
    have hT : s.TypeIs (.ref m) "map" := ⟨_, st.1, rfl⟩
    refine wpAny_pyIter_slot hT slot_map_iter (wpAny_call_entry slot_map_iter hT entry_map_iter ?_ (args_map_iter _))
    show wpAny _ _ (ret (.ref m)) _ _ s
    exact wpAny_pure ⟨_, rfl, "map", _, hT, slot_map_next.lookup, hQ⟩

/-- max(map(len, D)), where D is not empty -/
theorem max_map {m TI it D : Addr} {Q : Value → Shared → Prop} (hh : A.handled = none) (hm : IsMap s.heap m TI (.builtin "len")) (hT : IsOne s.heap TI (.ref it)) (hi : s.heap.IsTupleIter it D 0) (hD : s.heap.IsTuple D vs.toArray)
    (hp : PVs prog w s.heap vs cs) (hmne : m ≠ it) (hTne : TI ≠ it) (hDne : D ≠ it) (hvs : it ∉ vs.filterMap refOf) (hn : cs ≠ [])
    (h : ∀ h' t tk, (∀ b o, b ≠ it → s.heap.get? b = some o → h'.get? b = some o) → Q (.int (mostC cs) t) { s with heap := h', toks := tk }) :
    wpAny (model prog w) A (call (.builtin "max") [.ref m]) Q E s := by
  have W := walks_map (prog := prog) (w := w) (A := A.in1) (vs := vs) (cs := cs) hh hmne hTne hDne hvs hp.length
  have st : IsMap s.heap m TI (.builtin "len") ∧ IsOne s.heap TI (.ref it) ∧ s.heap.IsTupleIter it D 0 ∧ s.heap.IsTuple D vs.toArray ∧ PVs prog w s.heap vs cs := ⟨hm, hT, hi, hD, hp⟩
  refine call_max_walk (W.self 0 s _ _ st ?_)
  refine ⟨m, _, _, _, _, _, _, rfl, W, st, ?_, List.length_pos_iff.mpr hn, CmpOf.ints_gt (lenAt cs) (fun _ _ e => e), fun v h' tk hP hk => ?_⟩
  · intro b hb
    simp only [List.mem_cons] at hb
    rcases hb with q | q | q | q | q
    · rw [q]; exact Heap.lt_size hm
    · rw [q]; exact Heap.lt_size hT
    · rw [q]; obtain ⟨_, e, _⟩ := hi; exact Heap.lt_size e
    · rw [q]; obtain ⟨_, e, _⟩ := hD; exact Heap.lt_size e
    · exact hp.lt b q
  · obtain ⟨t, rfl⟩ := hP
    rw [mostC_best cs hn]
    exact h h' t tk fun b o hb e => hk b o (fun q => hb (by simpa using q)) e
end
end Mine

namespace Mine
section
variable {M : Model} {A : Around} {E : Value → Shared → Prop} {s : Shared} {env : Env}
/-- o.name(*e): the method is looked up first -/
theorem methodCall_star {id name : Str} {op apos p pos : Pos} {e : Expr} {Q : Value → Shared → Prop}
    (h : wpAny M A (eval (.Name id op) env) (fun ov s₁ => wpAny M A (getAttr ov name true) (fun f s₂ => wpAny M A (callWith pos f [] (backTo pos (starEach [.Starred e p] env)) []) Q E s₂) E s₁) E s) :
    wpAny M A (eval (.Call (.Attribute (.Name id op) name apos) [.Starred e p] [] pos) env) Q E s := by
  have he : eval (.Call (.Attribute (.Name id op) name apos) [.Starred e p] [] pos) env = (do
      let ov ← eval (.Name id op) env
      standAt apos.atName
      let (f, first) ← holding [ov] (do pure (← getAttr ov name true, []))
      callWith pos f first (backTo pos (starEach [.Starred e p] env)) []) := rfl
  rw [he]
  refine wpAny_bind (wpAny_mono h (fun ov s₁ h₁ => wpAny_bind (wpAny_standAt (wpAny_bind (wpAny_holding (wpAny_bind (wpAny_mono h₁ (fun f s₂ h₂ => wpAny_pure ?_) fun _ _ x => x)))))) fun _ _ x => x)
  exact h₂

theorem callWith_star {f : Value} {pos p : Pos} {e : Expr} {Q : Value → Shared → Prop} {P : Heap → Prop}
    (hk : ∀ h, P h → ∃ k, (k = Keeper.frame ∨ k = Keeper.machine ∨ k = Keeper.boundFrame) ∧ Looks M h (keeperOf f) k)
    (h : wpAny M A (eval e env) (fun v s₁ => StarOf M A E v (fun vs s₂ => P s₂.heap ∧ wpAny M A (call f vs) Q E s₂) s₁) E s) :
    wpAny M A (callWith pos f [] (backTo pos (starEach [.Starred e p] env)) []) Q E s := by
  have he : starEach [.Starred e p] env = [(true, eval e env)] := rfl
  rw [he]
  exact ks_call (first := []) (P := P) rfl hk (ks_lone h)
end

section
variable {prog : Program} {w : World} {A : Around} {E : Value → Shared → Prop} {s : Shared} {K : Frag} {x C : Addr} {ox : Obj} {od : Option Obj} {name : Str}

theorem star_any {a : Addr} {o : Obj} {T : String} {its : Array Value} {n : Nat} {Q : List Value → Shared → Prop} (ho : s.heap.get? a = some o) (hc : o.cls = .type T) (hd : o.data = .seq its n) (hT : T = "list" ∨ T = "tuple") (hz : its.size ≤ sizeLine)
    (h : ∀ h', (∀ b o, s.heap.get? b = some o → h'.get? b = some o) → Q its.toList { s with heap := h' }) : StarOf (model prog w) A E (.ref a) Q s := by
  have hT' : s.TypeIs (.ref a) T := ⟨o, ho, hc⟩
  have z : wpAny (model prog w) A (collect (.ref a)) Q E s := wpAny_collect_seq a hT ho hc hd h hz
  unfold StarOf notIterableAtAll
  rcases hT with rfl | rfl
  · exact wpAny_bind (wpAny_specialOf hT' PySem.F.slot_list_iter.lookup (wpAny_pure ⟨rfl, z⟩))
  · exact wpAny_bind (wpAny_specialOf hT' PySem.F.slot_tuple_iter.lookup (wpAny_pure ⟨rfl, z⟩))

theorem get_static {p f : Addr} {rest : List Value} {expr : Bool} {Q : Value → Shared → Prop} (X : K.In s.heap) (I : InstAt s.heap x ox C od) (hg : plainGet K C name = true)
    (hf : findObj K C od name = some (.bind (.builtin "staticmethod.__get__") (.ref p))) (hp : recIn K p "staticmethod" = some (.ref f :: rest))
    (h : Q (.ref f) { s with toks := s.toks + 1 }) : wpAny (model prog w) A (getAttr (.ref x) name expr) Q E s :=
  get_bind X I (plainGet_of hg).1 hf (plainGet_of hg).2 (wpAny_call (sm_get (s := { s with toks := s.toks + 1 }) X hp (handed_on rfl h)))
theorem get_bound {f : Addr} {expr : Bool} {Q : Value → Shared → Prop} (X : K.In s.heap) (I : InstAt s.heap x ox C od) (hg : plainGet K C name = true)
    (hf : findObj K C od name = some (.bind (.builtin "function.__get__") (.ref f))) (ht : isFn K (.ref f) = true)
    (h : Q (.ref s.heap.objs.size) { s with heap := s.heap.push (methodObj (.ref f) (.ref x)), toks := s.toks + 1 }) : wpAny (model prog w) A (getAttr (.ref x) name expr) Q E s :=
  get_bind X I (plainGet_of hg).1 hf (plainGet_of hg).2 (wpAny_call (fn_get (s := { s with toks := s.toks + 1 }) X (beq_iff_eq.mp ht) (handed_on rfl h)))

theorem InstAt.keeps {h h' : Heap} (I : InstAt h x ox C od) (k : ∀ b o, h.get? b = some o → h'.get? b = some o) : InstAt h' x ox C od :=
  ⟨k _ _ I.at_, I.cls, I.no, by
    have := I.dict
    revert this
    cases ox.dict <;> cases od <;> intro q <;> first | exact q | exact k _ _ q⟩

/-- x.name(*vs), where name is a static method's -/
theorem star_static {env : Env} {id xn : Str} {op apos p pos p2 : Pos} {q f D : Addr} {rest : List Value} {o : Obj} {its : Array Value} {n : Nat} {T : String} {Q : Value → Shared → Prop}
    (hid : ∀ Q', Q' (.ref x) s → wpAny (model prog w) A (eval (.Name id op) env) Q' E s)
    (hxn : ∀ (s₁ : Shared) Q', s₁.heap = s.heap → Q' (.ref D) s₁ → wpAny (model prog w) A (eval (.Name xn p2) env) Q' E s₁)
    (X : K.In s.heap) (I : InstAt s.heap x ox C od) (hg : plainGet K C name = true)
    (hf : findObj K C od name = some (.bind (.builtin "staticmethod.__get__") (.ref q))) (hp : recIn K q "staticmethod" = some (.ref f :: rest)) (hk : keepIn K (.ref f) = true)
    (ho : s.heap.get? D = some o) (hc : o.cls = .type T) (hd : o.data = .seq its n) (hT : T = "list" ∨ T = "tuple") (hz : its.size ≤ sizeLine)
    (h : ∀ h' tk, (∀ b o, s.heap.get? b = some o → h'.get? b = some o) → codeAny (model prog w) A (.call (.ref f) ⟨its.toList, []⟩) (fun r s' => match r with | .ok (.ret v) => Q v s' | .ok _ => False | .error e => E e s') { s with heap := h', toks := tk }) :
    wpAny (model prog w) A (eval (.Call (.Attribute (.Name id op) name apos) [.Starred (.Name xn p2) p] [] pos) env) Q E s := by
  refine methodCall_star (hid _ (get_static X I hg hf hp ?_))
  refine callWith_star (P := K.In) (keeps_K hk) (hxn _ _ rfl ?_)
  exact star_any ho hc hd hT hz fun h' k => ⟨X.keeps k, wpAny_call (h h' _ k)⟩

/-- x.name(*vs), where name is a function of the class -/
theorem star_bound {env : Env} {id xn : Str} {op apos p pos p2 : Pos} {f D : Addr} {o : Obj} {its : Array Value} {n : Nat} {T : String} {Q : Value → Shared → Prop}
    (hid : ∀ Q', Q' (.ref x) s → wpAny (model prog w) A (eval (.Name id op) env) Q' E s)
    (hxn : ∀ (s₁ : Shared) Q', (∀ b o, s.heap.get? b = some o → s₁.heap.get? b = some o) → Q' (.ref D) s₁ → wpAny (model prog w) A (eval (.Name xn p2) env) Q' E s₁)
    (X : K.In s.heap) (I : InstAt s.heap x ox C od) (hg : plainGet K C name = true)
    (hf : findObj K C od name = some (.bind (.builtin "function.__get__") (.ref f))) (ht : isFn K (.ref f) = true) (hk : fnIn K f = true)
    (ho : s.heap.get? D = some o) (hc : o.cls = .type T) (hd : o.data = .seq its n) (hT : T = "list" ∨ T = "tuple") (hz : its.size ≤ sizeLine)
    (h : ∀ h' tk, (∀ b o, s.heap.get? b = some o → h'.get? b = some o) → codeAny (model prog w) A (.call (.ref f) ⟨.ref x :: its.toList, []⟩) (fun r s' => match r with | .ok (.ret v) => Q v s' | .ok _ => False | .error e => E e s') { s with heap := h', toks := tk }) :
    wpAny (model prog w) A (eval (.Call (.Attribute (.Name id op) name apos) [.Starred (.Name xn p2) p] [] pos) env) Q E s := by
  refine methodCall_star (hid _ (get_bound X I hg hf ht ?_))
  have k0 : ∀ b o, s.heap.get? b = some o → (s.heap.push (methodObj (.ref f) (.ref x))).get? b = some o := fun b o e => Heap.get?_push_of_some _ e
  refine callWith_star (P := MethP K s.heap.objs.size f (.ref x)) (keeps_M hk) (hxn _ _ k0 ?_)
  refine star_any (k0 _ _ ho) hc hd hT hz fun h' k => ?_
  have hm : h'.get? s.heap.objs.size = some (methodObj (.ref f) (.ref x)) := k _ _ (Heap.get?_push_size _ rfl)
  refine ⟨⟨hm, (X.keeps k0).keeps k⟩, wpAny_call (ks_codeAny_call_bound hm ?_)⟩
  exact h h' _ fun b o e => k _ _ (k0 _ _ e)
end
end Mine

namespace Mine
section
variable {A : Around} {envs : List Env} {base h h' : Heap} {fr : List Addr} {env : Env} {m : Str → Option Value} {D : Addr} {vs : List Value}
theorem FK.refl : FK fr h h := .of_keeps fun _ _ e => e
theorem FK.stays (x : FK fr h h') (hb : ∀ b ∈ fr, base.get? b = none) (st : base.StaysIn h) : base.StaysIn h' := fun b o e => x.1 b o (fun q => by rw [hb b q] at e; cases e) (st b o e)
theorem FK.ff {l : List Env} (x : FK fr h h') (f : h.FunFrames base l) : h'.FunFrames base l := f.of_keeps fun b o e hn => let ⟨_, q⟩ := x.2 b o e hn; ⟨_, q, rfl⟩
theorem FK.ns (x : FK fr h h') (n : h.Ns D m) : h'.Ns D m := Heap.UpToSlots.ns x.2 n
theorem FK.tuple {its : Array Value} (x : FK fr h h') (t : h.IsTuple D its) : h'.IsTuple D its := by
  obtain ⟨o, q, c, n, d⟩ := t
  obtain ⟨sl, e⟩ := x.2 _ _ q fun vs e => by rw [d] at e; cases e
  exact ⟨_, e, c, n, d⟩

theorem FS.apart (S : FS A envs base h) : ∀ b ∈ envs.filterMap (·.frame), base.get? b = none := fun b hb => (S.ff.mem hb).1
theorem FS.after (S : FS A envs base h) (x : FK (envs.filterMap (·.frame)) h h') : FS A envs base h' := ⟨S.fr, x.ff S.ff, x.stays S.apart S.st⟩
theorem FS.grown (S : FS A envs base h) (k : ∀ b o, h.get? b = some o → h'.get? b = some o) : FS A envs base h' := S.after (.of_keeps k)

/-- inside a def's frame -/
structure Entered (A : Around) (envs : List Env) (base : Heap) (env : Env) (m : Str → Option Value) (D : Addr) (vs : List Value) (h : Heap) : Prop where
  fs : FS A (env :: envs) base h
  ns : h.Ns env.locals m
  tup : h.IsTuple D vs.toArray
theorem Entered.after (x : Entered A envs base env m D vs h) (k : FK ((env :: envs).filterMap (·.frame)) h h') : Entered A envs base env m D vs h' := ⟨x.fs.after k, k.ns x.ns, k.tuple x.tup⟩
theorem Entered.grown (x : Entered A envs base env m D vs h) (k : ∀ b o, h.get? b = some o → h'.get? b = some o) : Entered A envs base env m D vs h' := x.after (.of_keeps k)

theorem FK.leave {h₁ : Heap} {L' : Addr} (hf : env.frame = some L') (hLn : h.get? L' = none) (k₁ : ∀ b o, h.get? b = some o → h₁.get? b = some o) (x : FK ((env :: envs).filterMap (·.frame)) h₁ h') : FK (envs.filterMap (·.frame)) h h' := by
  rw [List.filterMap_cons_some hf] at x
  refine ⟨fun b o hb q => x.1 b o (fun hm => ?_) (k₁ b o q), fun b o q hn => x.2 b o (k₁ b o q) hn⟩
  rcases List.mem_cons.mp hm with r | r
  · rw [r, hLn] at q; cases q
  · exact hb r
end

/-- what a function answers -/
def Answers (prog : Program) (w : World) (base : Heap) (u d : Nat) (f : Addr) (first : List Value) (ok : List Cont → Prop) (res : List Cont → Value → Prop) : Prop :=
  ∀ (A : Around) (s : Shared) (envs : List Env) (R : Result → Shared → Prop) (vs : List Value) (cs : List Cont), FS A envs base s.heap → A.depth + d < recursionLimit → A.units + u < cLine → A.handled = none →
    PVs prog w base vs cs → cs.length ≤ 4 → ok cs → (∀ v h' tk, res cs v → FK (envs.filterMap (·.frame)) s.heap h' → R (.ok (.ret v)) { s with heap := h', toks := tk }) →
    codeAny (model prog w) A (.call (.ref f) ⟨first ++ vs, []⟩) R s

section
variable {prog : Program} {w : World} {A : Around} {E : Value → Shared → Prop} {s : Shared} {envs : List Env} {base : Heap} {mg mb : Str → Option Value} {env : Env} {m : Str → Option Value} {D : Addr} {vs : List Value} {cs : List Cont}

theorem max_body {xe : Str} {p1 p2 p3 p4 p5 p6 p7 : Pos} {Q : Flow → Shared → Prop} (hh : A.handled = none) (T : Names base mg mb) (hst : base.StaysIn s.heap)
    (hmax : mg "max" = none) (hmap : mg "map" = none) (hlen : mg "len" = none) (hmaxk : env.kindOf "max" = some .globalImplicit) (hmapk : env.kindOf "map" = some .globalImplicit) (hlenk : env.kindOf "len" = some .globalImplicit)
    (hg : env.globals = mainGlobals) (hb : env.builtins = builtinsNs) (hk : env.scope.kind = .function) (hxk : env.kindOf xe = some .local) (hxd : (xe == ("__debug__" : Str)) = false)
    (hn : s.heap.Ns env.locals m) (hm : m xe = some (.ref D)) (hD : s.heap.IsTuple D vs.toArray) (hpv : PVs prog w s.heap vs cs) (hne : cs ≠ [])
    (h : ∀ h' t tk, (∀ b o, s.heap.get? b = some o → h'.get? b = some o) → Q (.ret (.int (mostC cs) t)) { s with heap := h', toks := tk }) :
    wpAny (model prog w) A (execs [.Return (some (.Call (.Name "max" p1) [.Call (.Name "map" p2) [.Name "len" p3, .Name xe p4] [] p5] [] p6)) p7] env) Q E s := by
  refine wpAny_execs_cons (wpAny_Return_some ?_)
  refine Call_ (name_built T hst hmax PyProof.Rows.boot_max (by decide) hg hb hk hmaxk (by decide) ?_)
  refine callWith_builtin1 (he := rfl) (hplain := rfl) (args_cons (he := rfl) ?_)
  refine Call_ (name_built T hst hmap PyProof.Rows.boot_map (by decide) hg hb hk hmapk (by decide) ?_)
  refine callWith_type1 (he := rfl) (hplain := rfl) (args_cons (he := rfl) (name_built T hst hlen PyProof.Rows.bootS_len (by decide) hg hb hk hlenk (by decide) ?_))
  refine args_cons (he := rfl) (wpAny_Name (wpAny_loadName_local hk hxk hn hm ?_) hxd)
  refine args_nil ?_
  refine call_map_tuple hD fun h₁ mp TI it e1 e2 e3 _ q1 q2 q3 k => ?_
  refine args_nil ?_
  have hDlt : @LT.lt Nat _ D s.heap.objs.size := by obtain ⟨_, e, _⟩ := hD; exact Heap.lt_size e
  have e1' : @Eq Nat mp (s.heap.objs.size + 2) := e1
  have e2' : @Eq Nat TI (s.heap.objs.size + 1) := e2
  have e3' : @Eq Nat it s.heap.objs.size := e3
  have hit : s.heap.get? it = none := Heap.get?_none_of_le (by rw [e3]; exact Nat.le_refl _)
  refine max_map (s := { s with heap := h₁ }) hh q1 q2 q3 (by obtain ⟨o, q, r⟩ := hD; exact ⟨o, k _ _ q, r⟩) (hpv.map fun v c y => y.keeps k) (by show @Ne Nat _ _; omega) (by show @Ne Nat _ _; omega) (by show @Ne Nat _ _; omega)
    (fun hm' => ?_) hne fun h₂ t tk k₂ => ?_
  · have := hpv.lt it hm'
    rw [e3] at this; exact Nat.lt_irrefl _ this
  · exact h h₂ t tk fun b o e => k₂ b o (fun q => by subst q; rw [hit] at e; cases e) (k b o e)
end
end Mine

namespace Mine
/-- what an expression answers, from any state that kept all but the frames -/
def Ev (prog : Program) (w : World) (A : Around) (E : Value → Shared → Prop) (fr : List Addr) (s : Shared) (e : Expr) (env : Env) (P : Value → Prop) : Prop :=
  ∀ h₁ tk₁ (Q : Value → Shared → Prop), FK fr s.heap h₁ → (∀ h' tk v, P v → FK fr s.heap h' → Q v { s with heap := h', toks := tk }) → wpAny (model prog w) A (eval e env) Q E { s with heap := h₁, toks := tk₁ }

section
variable {prog : Program} {w : World} {A : Around} {E : Value → Shared → Prop} {s : Shared} {envs : List Env} {base : Heap} {mg mb : Str → Option Value} {env : Env} {m : Str → Option Value} {D : Addr} {vs : List Value} {cs : List Cont}

theorem ev_int {fr : List Addr} {i : Int} {k : Nat} {p : Pos} {P : Value → Prop} (h : ∀ t, P (.int i t)) : Ev prog w A E fr s (.Constant (.int i) k p) env P := fun h₁ tk₁ Q x hQ => by
  refine wpAny_Constant_int ?_
  exact hQ _ _ _ (h _) x

theorem quick_body {xe : Str} {ie : Expr} {a1 a2 a3 b : Expr} {p1 p2 p3 p4 p5 p6 p7 p8 p9 q1 q2 q3 q4 q5 q6 q7 q8 q9 r1 r2 r3 : Pos} {k1 k2 : Nat} {Res : Value → Prop} {Q : Flow → Shared → Prop}
    (hh : A.handled = none) (T : Names base mg mb) (X : Entered A envs base env m D vs s.heap) (hpv : PVs prog w base vs cs) (h4 : cs.length ≤ 4)
    (hlen : mg "len" = none) (hall : mg "all" = none) (hlenk : env.kindOf "len" = some .globalImplicit) (hallk : env.kindOf "all" = some .globalImplicit)
    (hg : env.globals = mainGlobals) (hb : env.builtins = builtinsNs) (hk : env.scope.kind = .function) (hxk : env.kindOf xe = some .local) (hxd : (xe == ("__debug__" : Str)) = false) (hm : m xe = some (.ref D))
    (e1 : cs = [] → Ev prog w A E ((env :: envs).filterMap (·.frame)) s a1 env Res) (e2 : cs.length = 1 → Ev prog w A E ((env :: envs).filterMap (·.frame)) s a2 env Res)
    (ei : Ev prog w A E ((env :: envs).filterMap (·.frame)) s ie env (· = .bool (allEq cs))) (hie : ∀ whole, isTrue ie env whole = (do let v ← whole; standAt ie.pos; holding [v] (truthy v)))
    (e3 : 2 ≤ cs.length → allEq cs = true → Ev prog w A E ((env :: envs).filterMap (·.frame)) s a3 env Res)
    (e4 : 2 ≤ cs.length → allEq cs = false → allFull cs = false → Ev prog w A E ((env :: envs).filterMap (·.frame)) s b env Res) (e5 : 2 ≤ cs.length → allEq cs = false → allFull cs = true → Res .none)
    (h : ∀ h' tk v, Res v → FK ((env :: envs).filterMap (·.frame)) s.heap h' → Q (.ret v) { s with heap := h', toks := tk }) :
    wpAny (model prog w) A (execs [.If (.UnaryOp .Not (.Name xe p1) p2) [.Return (some a1) p3] [] p4,
      .If (.Compare (.Call (.Name "len" p5) [.Name xe p6] [] p7) [.Eq] [.Constant (.int 1) k1 p8] p9) [.Return (some a2) q1] [] q2,
      .If ie [.Return (some a3) q3] [] q4,
      .If (.UnaryOp .Not (.Call (.Name "all" q5) [.Name xe q6] [] q7) q8) [.Return (some b) q9] [] r1,
      .Return (some (.Constant .none k2 r2)) r3] env) Q E s := by
  have hsz : vs.toArray.size = cs.length := by rw [List.size_toArray]; exact hpv.length
  have hfit : (vs.toArray.size : Int) < 2 ^ 63 := by rw [hsz]; omega
  have pvs : ∀ {h}, FK ((env :: envs).filterMap (·.frame)) s.heap h → PVs prog w h vs cs := fun k => hpv.map fun v c y => y.keeps (X.after k).fs.st
  -- not sequences
  refine wpAny_execs_cons (wpAny_If (wpAny_isTrue_Not (wpAny_isTrue_value (he := rfl) (wpAny_Name (wpAny_loadName_local hk hxk X.ns hm ?_) hxd))))
  refine truthy_tuple X.tup hfit ?_
  have hemp : vs.toArray.isEmpty = decide (cs = []) := by
    rw [List.isEmpty_toArray]
    have := hpv.length
    cases vs <;> cases cs <;> simp_all
  simp only [Bool.not_not, hemp]
  by_cases c0 : cs = []
  · simp only [decide_eq_true c0, if_true]
    refine wpAny_execs_cons (wpAny_Return_some ?_)
    exact e1 c0 s.heap _ _ .refl fun h' tk v r k => h h' tk v r k
  · simp only [decide_eq_false c0, Bool.false_eq_true, if_false]
    refine wpAny_execs_nil ?_
    have c0' : 0 < cs.length := List.length_pos_iff.mpr c0
    -- len(sequences) == 1
    refine wpAny_execs_cons (wpAny_If (wpAny_isTrue_Compare1 ?_))
    refine Call_ (name_built (s := { s with toks := _ }) T X.fs.st hlen PyProof.Rows.bootS_len (by decide) hg hb hk hlenk (by decide) ?_)
    refine callWith_builtin1 (he := rfl) (hplain := rfl) (args_cons (he := rfl) (wpAny_Name (wpAny_loadName_local (s := { s with toks := _ }) hk hxk X.ns hm ?_) hxd))
    refine args_nil ?_
    refine len_tuple (s := { s with toks := _ }) X.tup hfit ?_
    refine wpAny_Constant_int ?_
    refine PyProof.Rows.eq_int ?_
    refine wpAny_truthy_bool ?_
    have hone : ((vs.toArray.size : Int) == 1) = decide (cs.length = 1) := by
      rw [hsz]
      by_cases q : cs.length = 1
      · rw [q]; rfl
      · rw [decide_eq_false q, beq_eq_false_iff_ne]; omega
    rw [hone]
    by_cases c1 : cs.length = 1
    · simp only [decide_eq_true c1, if_true]
      refine wpAny_execs_cons (wpAny_Return_some ?_)
      exact e2 c1 s.heap _ _ .refl fun h' tk v r k => h h' tk v r k
    · simp only [decide_eq_false c1, Bool.false_eq_true, if_false]
      refine wpAny_execs_nil ?_
      have c2 : 2 ≤ cs.length := by omega
      refine wpAny_execs_cons (wpAny_If (wpAny_isTrue_value (he := hie _) ?_))
      refine ei s.heap _ _ .refl fun h₁ tk₁ v hv k₁ => ?_
      subst hv
      refine wpAny_truthy_bool ?_
      cases hq : allEq cs with
      | true =>
        simp only [if_true]
        refine wpAny_execs_cons (wpAny_Return_some ?_)
        exact e3 c2 hq h₁ tk₁ _ k₁ fun h' tk v r k => h h' tk v r k
      | false =>
        simp only [Bool.false_eq_true, if_false]
        refine wpAny_execs_nil ?_
        refine wpAny_execs_cons (wpAny_If (wpAny_isTrue_Not (wpAny_isTrue_value (he := rfl) ?_)))
        have X₁ := X.after k₁
        refine Call_ (name_built (s := { s with heap := h₁, toks := tk₁ }) T X₁.fs.st hall PyProof.Rows.boot_all (by decide) hg hb hk hallk (by decide) ?_)
        refine callWith_builtin1 (he := rfl) (hplain := rfl) (args_cons (he := rfl) (wpAny_Name (wpAny_loadName_local (s := { s with heap := h₁, toks := tk₁ }) hk hxk X₁.ns hm ?_) hxd))
        refine args_nil ?_
        refine call_all_pv (s := { s with heap := h₁, toks := tk₁ }) hh X₁.tup (pvs k₁) fun h₂ tk₂ kk => ?_
        have k₂ : FK ((env :: envs).filterMap (·.frame)) s.heap h₂ := k₁.trans (.of_keeps kk)
        refine wpAny_truthy_bool ?_
        cases hf : allFull cs with
        | false =>
          simp only [Bool.not_false, if_true]
          refine wpAny_execs_cons (wpAny_Return_some ?_)
          exact e4 c2 hq hf h₂ tk₂ _ k₂ fun h' tk v r k => h h' tk v r k
        | true =>
          simp only [Bool.not_true, Bool.false_eq_true, if_false]
          refine wpAny_execs_nil ?_
          refine wpAny_execs_cons (wpAny_Return_some (wpAny_Constant_none ?_))
          exact h h₂ tk₂ _ (e5 c2 hq hf) k₂
end
end Mine

namespace Mine
def IsRes (o : Option Int) (v : Value) : Prop := match o with
  | none => v = .none
  | some n => ∃ t, v = .int n t
def quickB (cs : List Cont) : Option Int := if cs.length ≤ 1 then some 0 else if allEq cs = true then some 0 else if allFull cs = true then none else some (mostC cs)
def quickS (M : List Cont → Int) (cs : List Cont) : Option Int := if cs.length ≤ 1 then some (M cs) else if allEq cs = true then some (M cs) else if allFull cs = true then none else some 0

section
variable {prog : Program} {w : World} {A : Around} {E : Value → Shared → Prop} {s : Shared} {envs : List Env} {base : Heap} {mg mb : Str → Option Value} {env : Env} {m : Str → Option Value} {D : Addr} {vs : List Value} {cs : List Cont}
  {K : Frag} {x C : Addr} {ox : Obj} {od : Option Obj} {nm : Str} {u d : Nat} {ok : List Cont → Prop} {res : List Cont → Value → Prop}

theorem ev_static {id xn : Str} {op apos p pos p2 : Pos} {q f : Addr} {rest : List Value} (ans : Answers prog w base u d f [] ok res) (X : Entered A envs base env m D vs s.heap)
    (hd : A.depth + d < recursionLimit) (hu : A.units + u < cLine) (hh : A.handled = none) (hpv : PVs prog w base vs cs) (h4 : cs.length ≤ 4) (hok : ok cs)
    (hk : env.scope.kind = .function) (hik : env.kindOf id = some .local) (hid : (id == ("__debug__" : Str)) = false) (him : m id = some (.ref x)) (hxk : env.kindOf xn = some .local) (hxd : (xn == ("__debug__" : Str)) = false) (hxm : m xn = some (.ref D))
    (KB : K.In base) (I : InstAt base x ox C od) (hg : plainGet K C nm = true) (hf : findObj K C od nm = some (.bind (.builtin "staticmethod.__get__") (.ref q))) (hp : recIn K q "staticmethod" = some (.ref f :: rest)) (hkeep : keepIn K (.ref f) = true) :
    Ev prog w A E ((env :: envs).filterMap (·.frame)) s (.Call (.Attribute (.Name id op) nm apos) [.Starred (.Name xn p2) p] [] pos) env (res cs) := by
  intro h₁ tk₁ Q x₁ hQ
  have X₁ := X.after x₁
  obtain ⟨o, q1, c1, n1, d1⟩ := X₁.tup
  have hl : vs.toArray.size ≤ sizeLine := by rw [List.size_toArray, hpv.length, sizeLine_eq]; omega
  refine star_static (x := x) (D := D) (K := K) (fun Q' hq => wpAny_Name (wpAny_loadName_local (s := { s with heap := h₁, toks := tk₁ }) hk hik X₁.ns him hq) hid) (fun s₁ Q' e hq => wpAny_Name (wpAny_loadName_local (s := s₁) hk hxk (by rw [e]; exact X₁.ns) hxm hq) hxd)
    (KB.keeps X₁.fs.st) (Mine.InstAt.keeps I X₁.fs.st) hg hf hp hkeep q1 c1 d1 (.inr rfl) hl fun h₂ tk₂ k₂ => ?_
  have S₂ := X₁.fs.grown k₂
  refine ans A { s with heap := h₂, toks := tk₂ } (env :: envs) _ vs cs S₂ hd hu hh hpv h4 hok fun v h' tk r kk => ?_
  exact hQ h' tk v r ((x₁.trans (.of_keeps k₂)).trans kk)

theorem ev_bound {id xn : Str} {op apos p pos p2 : Pos} {f : Addr} (ans : Answers prog w base u d f [.ref x] ok res) (X : Entered A envs base env m D vs s.heap)
    (hd : A.depth + d < recursionLimit) (hu : A.units + u < cLine) (hh : A.handled = none) (hpv : PVs prog w base vs cs) (h4 : cs.length ≤ 4) (hok : ok cs)
    (hk : env.scope.kind = .function) (hik : env.kindOf id = some .local) (hid : (id == ("__debug__" : Str)) = false) (him : m id = some (.ref x)) (hxk : env.kindOf xn = some .local) (hxd : (xn == ("__debug__" : Str)) = false) (hxm : m xn = some (.ref D))
    (KB : K.In base) (I : InstAt base x ox C od) (hg : plainGet K C nm = true) (hf : findObj K C od nm = some (.bind (.builtin "function.__get__") (.ref f))) (ht : isFn K (.ref f) = true) (hkeep : fnIn K f = true) :
    Ev prog w A E ((env :: envs).filterMap (·.frame)) s (.Call (.Attribute (.Name id op) nm apos) [.Starred (.Name xn p2) p] [] pos) env (res cs) := by
  intro h₁ tk₁ Q x₁ hQ
  have X₁ := X.after x₁
  obtain ⟨o, q1, c1, n1, d1⟩ := X₁.tup
  have hl : vs.toArray.size ≤ sizeLine := by rw [List.size_toArray, hpv.length, sizeLine_eq]; omega
  refine star_bound (x := x) (D := D) (K := K) (fun Q' hq => wpAny_Name (wpAny_loadName_local (s := { s with heap := h₁, toks := tk₁ }) hk hik X₁.ns him hq) hid) (fun s₁ Q' e hq => wpAny_Name (wpAny_loadName_local (s := s₁) hk hxk ((X₁.grown e).ns) hxm hq) hxd)
    (KB.keeps X₁.fs.st) (Mine.InstAt.keeps I X₁.fs.st) hg hf ht hkeep q1 c1 d1 (.inr rfl) hl fun h₂ tk₂ k₂ => ?_
  have S₂ := X₁.fs.grown k₂
  refine ans A { s with heap := h₂, toks := tk₂ } (env :: envs) _ vs cs S₂ hd hu hh hpv h4 hok fun v h' tk r kk => ?_
  exact hQ h' tk v r ((x₁.trans (.of_keeps k₂)).trans kk)
end

section
variable {prog : Program} {w : World} {base : Heap} {mg mb : Str → Option Value}

theorem ident_answers {name qual : Str} {scope : Scope} {doc pm cdv ct : Value} {an : Option Addr} {o : Obj} {f : Addr} {xe : Arg}
    {xa xb : Str} {p1 p2 p3 p4 p5 p6 p7 p8 q1 q2 q3 r1 r2 r3 r4 r5 r6 r7 t1 t2 t3 t4 t5 t6 u1 u2 v1 v2 v3 v4 : Pos} {kk k1 k2 k3 k4 : Nat}
    (T : Names base mg mb) (hlim : base.NoLimit) (ho : base.get? f = some o)
    (hd : o.data = .func (fnOf name qual (restParams [] xe) [.Try [.Return (some (.Compare (.Call (.Name "len" p1) [.Call (.Name "set" p2) [.Name xe.arg p3] [] p4] [] p5) [.Eq] [.Constant (.int 1) kk p6] p7)) p8]
      [.ExceptHandler (some (.Name "TypeError" q1)) none
        [.For (.Tuple [.Name xa t1, .Name xb t2] k1 t3) (.Call (.Name "zip" r1) [.Name xe.arg r2, .Subscript (.Name xe.arg r3) (.Slice (some (.Constant (.int 1) k2 r4)) none none r5) r6] [] r7)
          [.If (.Compare (.Name xa u1) [.NotEq] [.Name xb u2] t4) [.Return (some (.Constant (.bool false) k3 t5)) t6] [] v1] [] v2,
         .Return (some (.Constant (.bool true) k4 v3)) v4] q2] [] [] q3] scope .none .none doc pm an cdv ct))
    (hcd : base.CodeRec cdv qual) (hco : scope.isCoroutine = false) (hgen : scope.isGenerator = false) (hk : scope.kind = .function) (hcell : ∀ x ∈ scope.names, x.2 ≠ .cell)
    (hlen : mg "len" = none) (hset : mg "set" = none) (hzip : mg "zip" = none) (hte : mg "TypeError" = none)
    (hlenk : scope.names.lookup ("len" : Str) = some .globalImplicit) (hsetk : scope.names.lookup ("set" : Str) = some .globalImplicit) (hzipk : scope.names.lookup ("zip" : Str) = some .globalImplicit) (htek : scope.names.lookup ("TypeError" : Str) = some .globalImplicit)
    (hxk : scope.names.lookup xe.arg = some .local) (hxd : (xe.arg == ("__debug__" : Str)) = false)
    (hak : scope.names.lookup xa = some .local) (had : (xa == ("__debug__" : Str)) = false) (hbk : scope.names.lookup xb = some .local) (hbd : (xb == ("__debug__" : Str)) = false) (hab : xa ≠ xb) :
    Answers prog w base 70 0 f [] (fun _ => True) (fun cs v => v = .bool (allEq cs)) := by
  intro A s envs R vs cs S hroom hu hh hpv h4 _ k
  exact ident_c S T hlim (by omega) hu hh ho hd hcd hco hgen hk hcell hlen hset hzip hte hlenk hsetk hzipk htek hxk hxd hak had hbk hbd hab hpv h4 fun h' tk x => k _ h' tk rfl x

theorem max_answers {name qual : Str} {scope : Scope} {doc pm cdv ct : Value} {an : Option Addr} {o : Obj} {f : Addr} {xe : Arg} {p1 p2 p3 p4 p5 p6 p7 : Pos}
    (T : Names base mg mb) (hlim : base.NoLimit) (ho : base.get? f = some o)
    (hd : o.data = .func (fnOf name qual (restParams [] xe) [.Return (some (.Call (.Name "max" p1) [.Call (.Name "map" p2) [.Name "len" p3, .Name xe.arg p4] [] p5] [] p6)) p7] scope .none .none doc pm an cdv ct))
    (hcd : base.CodeRec cdv qual) (hco : scope.isCoroutine = false) (hgen : scope.isGenerator = false) (hk : scope.kind = .function) (hcell : ∀ x ∈ scope.names, x.2 ≠ .cell)
    (hmax : mg "max" = none) (hmap : mg "map" = none) (hlen : mg "len" = none)
    (hmaxk : scope.names.lookup ("max" : Str) = some .globalImplicit) (hmapk : scope.names.lookup ("map" : Str) = some .globalImplicit) (hlenk : scope.names.lookup ("len" : Str) = some .globalImplicit)
    (hxk : scope.names.lookup xe.arg = some .local) (hxd : (xe.arg == ("__debug__" : Str)) = false) :
    Answers prog w base 70 0 f [] (· ≠ []) (fun cs v => ∃ t, v = .int (mostC cs) t) := by
  intro A s envs R vs cs S hroom hu hh hpv h4 hne k
  have h4' : vs.length ≤ 4 := by rw [hpv.length]; exact h4
  refine enter_rest (binds := fun D => [(xe.arg, .ref D)]) S ho hd hcd hlim (by omega) (bind_rest0 h4') (fun _ => rfl) (fun D y hy => ?_) (fun D L' h₁ tk st₁ ff₁ k₁ hD hDL hDn hLn hn => ?_) hco hgen hk hcell
  · rw [List.mem_singleton] at hy; subst hy; exact hxk
  · refine max_body (s := { s with heap := h₁, toks := tk }) (env := envOf qual scope L' f cdv) (D := D) (cs := cs) hh T st₁ hmax hmap hlen hmaxk hmapk hlenk rfl rfl hk hxk hxd hn (by simp) ⟨_, hD, rfl, _, rfl⟩ (hpv.map fun v c y => y.keeps st₁) hne fun h' t tk' kk => ?_
    exact k _ h' tk' ⟨t, rfl⟩ (FK.leave (env := envOf qual scope L' f cdv) (L' := L') rfl hLn k₁ (.of_keeps kk))

theorem one_answers {name qual : Str} {scope : Scope} {doc pm cdv ct : Value} {an : Option Addr} {o : Obj} {f : Addr} {sp : Pos} {sv : Value} {xe : Arg} {p1 p2 : Pos} {kk : Nat}
    (hlim : base.NoLimit) (ho : base.get? f = some o)
    (hd : o.data = .func (fnOf name qual (restParams [⟨"self", none, sp⟩] xe) [.Return (some (.Constant (.int 1) kk p1)) p2] scope .none .none doc pm an cdv ct))
    (hcd : base.CodeRec cdv qual) (hco : scope.isCoroutine = false) (hgen : scope.isGenerator = false) (hk : scope.kind = .function) (hcell : ∀ x ∈ scope.names, x.2 ≠ .cell)
    (hsk : scope.names.lookup ("self" : Str) = some .local) (hxk : scope.names.lookup xe.arg = some .local) :
    Answers prog w base 70 0 f [sv] (fun _ => True) (fun _ v => ∃ t, v = .int 1 t) := by
  intro A s envs R vs cs S hroom hu hh hpv h4 hne k
  have h4' : vs.length ≤ 4 := by rw [hpv.length]; exact h4
  refine enter_rest (binds := fun D => [(("self" : Str), sv), (xe.arg, .ref D)]) S ho hd hcd hlim (by omega) (bind_rest1 h4') (fun _ => rfl) (fun D y hy => ?_) (fun D L' h₁ tk st₁ ff₁ k₁ hD hDL hDn hLn hn => ?_) hco hgen hk hcell
  · simp only [List.mem_cons, List.not_mem_nil, or_false] at hy
    rcases hy with rfl | rfl
    · exact hsk
    · exact hxk
  · refine wpAny_execs_cons (wpAny_Return_some (wpAny_Constant_int ?_))
    exact k _ h₁ _ ⟨_, rfl⟩ (FK.leave (env := envOf qual scope L' f cdv) (L' := L') rfl hLn k₁ .refl)
end
end Mine

namespace Mine
section
variable {prog : Program} {w : World} {base : Heap} {mg mb : Str → Option Value} {K : Frag} {x C : Addr} {ox : Obj} {od : Option Obj}

/-- the receiver and its _ident -/
structure Recv (K : Frag) (base : Heap) (x C : Addr) (ox : Obj) (od : Option Obj) : Prop where
  k : K.In base
  i : InstAt base x ox C od
/-- a static method found by its name -/
structure Static (K : Frag) (C : Addr) (od : Option Obj) (nm : Str) (q f : Addr) (rest : List Value) : Prop where
  g : plainGet K C nm = true
  fo : findObj K C od nm = some (.bind (.builtin "staticmethod.__get__") (.ref q))
  p : recIn K q "staticmethod" = some (.ref f :: rest)
  keep : keepIn K (.ref f) = true
structure Bound (K : Frag) (C : Addr) (od : Option Obj) (nm : Str) (f : Addr) : Prop where
  g : plainGet K C nm = true
  fo : findObj K C od nm = some (.bind (.builtin "function.__get__") (.ref f))
  t : isFn K (.ref f) = true
  keep : fnIn K f = true

section
variable {name qual : Str} {scope : Scope} {doc pm cdv ct : Value} {an : Option Addr} {o : Obj} {f fi fm qi qm : Addr} {ri rm : List Value} {sp : Pos} {xe : Arg}
  {p1 p2 p3 p4 p5 p6 p7 p8 p9 q1 q2 q3 q4 q5 q6 q7 q8 q9 r1 r2 r3 i1 i2 i3 i4 i5 m1 m2 m3 m4 m5 z1 z2 z3 y1 y2 y3 y4 y5 y6 y7 y8 : Pos} {k1 k2 n1 n2 n3 : Nat}

theorem quickB_answers (T : Names base mg mb) (hlim : base.NoLimit) (V : Recv K base x C ox od) (ho : base.get? f = some o)
    (hd : o.data = .func (fnOf name qual (restParams [⟨"self", none, sp⟩] xe) [.If (.UnaryOp .Not (.Name xe.arg p1) p2) [.Return (some (.Constant (.int 0) n1 z1)) p3] [] p4,
      .If (.Compare (.Call (.Name "len" p5) [.Name xe.arg p6] [] p7) [.Eq] [.Constant (.int 1) k1 p8] p9) [.Return (some (.Constant (.int 0) n2 z2)) q1] [] q2,
      .If (.Call (.Attribute (.Name "self" i1) "_ident" i2) [.Starred (.Name xe.arg i3) i4] [] i5) [.Return (some (.Constant (.int 0) n3 z3)) q3] [] q4,
      .If (.UnaryOp .Not (.Call (.Name "all" q5) [.Name xe.arg q6] [] q7) q8) [.Return (some (.Call (.Attribute (.Name "self" m1) "maximum" m2) [.Starred (.Name xe.arg m3) m4] [] m5)) q9] [] r1,
      .Return (some (.Constant .none k2 r2)) r3] scope .none .none doc pm an cdv ct))
    (hcd : base.CodeRec cdv qual) (hco : scope.isCoroutine = false) (hgen : scope.isGenerator = false) (hk : scope.kind = .function) (hcell : ∀ x ∈ scope.names, x.2 ≠ .cell)
    (hlen : mg "len" = none) (hall : mg "all" = none) (hlenk : scope.names.lookup ("len" : Str) = some .globalImplicit) (hallk : scope.names.lookup ("all" : Str) = some .globalImplicit)
    (hsk : scope.names.lookup ("self" : Str) = some .local) (hxk : scope.names.lookup xe.arg = some .local) (hxd : (xe.arg == ("__debug__" : Str)) = false) (hxs : xe.arg ≠ ("self" : Str))
    (SI : Static K C od "_ident" qi fi ri) (SM : Static K C od "maximum" qm fm rm)
    (ai : Answers prog w base 70 0 fi [] (fun _ => True) (fun cs v => v = .bool (allEq cs))) (am : Answers prog w base 70 0 fm [] (· ≠ []) (fun cs v => ∃ t, v = .int (mostC cs) t)) :
    Answers prog w base 80 1 f [.ref x] (fun _ => True) (fun cs v => IsRes (quickB cs) v) := by
  intro A s envs R vs cs S hroom hu hh hpv h4 _ k
  have h4' : vs.length ≤ 4 := by rw [hpv.length]; exact h4
  refine enter_rest (binds := fun D => [(("self" : Str), .ref x), (xe.arg, .ref D)]) S ho hd hcd hlim (by omega) (bind_rest1 h4') (fun _ => rfl) (fun D y hy => ?_) (fun D L' h₁ tk st₁ ff₁ k₁ hD hDL hDn hLn hn => ?_) hco hgen hk hcell
  · simp only [List.mem_cons, List.not_mem_nil, or_false] at hy
    rcases hy with rfl | rfl
    · exact hsk
    · exact hxk
  · have hfr : (A.deeper (envOf qual scope L' f cdv)).frames = some (envOf qual scope L' f cdv :: envs) := by show A.frames.map (envOf qual scope L' f cdv :: ·) = _; rw [S.fr]; rfl
    have X : Entered (A.deeper (envOf qual scope L' f cdv)) envs base (envOf qual scope L' f cdv) (fun y => ([(("self" : Str), (.ref x : Value)), (xe.arg, .ref D)] : List (Str × Value)).reverse.lookup y) D vs h₁ := ⟨⟨hfr, ff₁, st₁⟩, hn, ⟨_, hD, rfl, _, rfl⟩⟩
    have hmx : ([(("self" : Str), (.ref x : Value)), (xe.arg, .ref D)] : List (Str × Value)).reverse.lookup xe.arg = some (.ref D) := by simp
    have hms : ([(("self" : Str), (.ref x : Value)), (xe.arg, .ref D)] : List (Str × Value)).reverse.lookup ("self" : Str) = some (.ref x) := by
      have : (("self" : Str) == xe.arg) = false := by rw [beq_eq_false_iff_ne]; exact fun e => hxs e.symm
      simp [List.lookup, this]
    have hroom' : (A.deeper (envOf qual scope L' f cdv)).depth + 0 < recursionLimit := by show A.depth + 1 + 0 < _; omega
    have hu' : (A.deeper (envOf qual scope L' f cdv)).units + 70 < cLine := by show A.units + 3 + 70 < cLine; omega
    refine quick_body (s := { s with heap := h₁, toks := tk }) (env := envOf qual scope L' f cdv) (Res := fun v => IsRes (quickB cs) v) hh T X hpv h4 hlen hall hlenk hallk rfl rfl hk hxk hxd hmx (fun c => ev_int fun t => ?_) (fun c => ev_int fun t => ?_)
      (ev_static (res := fun cs v => v = .bool (allEq cs)) ai X hroom' hu' hh hpv h4 trivial hk hsk (by decide) hms hxk hxd hmx V.k V.i SI.g SI.fo SI.p SI.keep) (fun _ => rfl) (fun c e => ev_int fun t => ?_) (fun c e fl => ?_) (fun c e fl => ?_) fun h' tk' v r kk => ?_
    · unfold quickB; rw [if_pos (by rw [c]; simp)]; exact ⟨t, rfl⟩
    · unfold quickB; rw [if_pos (by omega)]; exact ⟨t, rfl⟩
    · unfold quickB; rw [if_neg (by omega), if_pos e]; exact ⟨t, rfl⟩
    · have : quickB cs = some (mostC cs) := by unfold quickB; rw [if_neg (by omega), if_neg (by simp [e]), if_neg (by simp [fl])]
      rw [this]
      exact ev_static (res := fun cs v => ∃ t, v = .int (mostC cs) t) am X hroom' hu' hh hpv h4 (by intro q; rw [q] at c; simp at c) hk hsk (by decide) hms hxk hxd hmx V.k V.i SM.g SM.fo SM.p SM.keep
    · unfold quickB; rw [if_neg (by omega), if_neg (by simp [e]), if_pos fl]; rfl
    · exact k v h' tk' r (FK.leave (env := envOf qual scope L' f cdv) (L' := L') rfl hLn k₁ kk)

/-- a similarity's: where maximum answers M -/
theorem quickS_answers {M : List Cont → Int} {ok : List Cont → Prop} (T : Names base mg mb) (hlim : base.NoLimit) (V : Recv K base x C ox od) (ho : base.get? f = some o)
    (hd : o.data = .func (fnOf name qual (restParams [⟨"self", none, sp⟩] xe) [.If (.UnaryOp .Not (.Name xe.arg p1) p2) [.Return (some (.Call (.Attribute (.Name "self" m1) "maximum" m2) [.Starred (.Name xe.arg m3) m4] [] m5)) p3] [] p4,
      .If (.Compare (.Call (.Name "len" p5) [.Name xe.arg p6] [] p7) [.Eq] [.Constant (.int 1) k1 p8] p9) [.Return (some (.Call (.Attribute (.Name "self" z1) "maximum" z2) [.Starred (.Name xe.arg z3) r1] [] r2)) q1] [] q2,
      .If (.Call (.Attribute (.Name "self" i1) "_ident" i2) [.Starred (.Name xe.arg i3) i4] [] i5) [.Return (some (.Call (.Attribute (.Name "self" q3) "maximum" q4) [.Starred (.Name xe.arg q5) q6] [] q7)) q8] [] q9,
      .If (.UnaryOp .Not (.Call (.Name "all" r3) [.Name xe.arg y1] [] y2) y3) [.Return (some (.Constant (.int 0) n1 y4)) y5] [] y6,
      .Return (some (.Constant .none k2 y7)) y8] scope .none .none doc pm an cdv ct))
    (hcd : base.CodeRec cdv qual) (hco : scope.isCoroutine = false) (hgen : scope.isGenerator = false) (hk : scope.kind = .function) (hcell : ∀ x ∈ scope.names, x.2 ≠ .cell)
    (hlen : mg "len" = none) (hall : mg "all" = none) (hlenk : scope.names.lookup ("len" : Str) = some .globalImplicit) (hallk : scope.names.lookup ("all" : Str) = some .globalImplicit)
    (hsk : scope.names.lookup ("self" : Str) = some .local) (hxk : scope.names.lookup xe.arg = some .local) (hxd : (xe.arg == ("__debug__" : Str)) = false) (hxs : xe.arg ≠ ("self" : Str))
    (SI : Static K C od "_ident" qi fi ri)
    (ai : Answers prog w base 70 0 fi [] (fun _ => True) (fun cs v => v = .bool (allEq cs)))
    (em : ∀ {A : Around} {E : Value → Shared → Prop} {s : Shared} {envs : List Env} {env : Env} {m : Str → Option Value} {D : Addr} {vs : List Value} {cs : List Cont} {op apos p pos p2 : Pos}, Entered A envs base env m D vs s.heap →
      A.depth + 0 < recursionLimit → A.units + 70 < cLine → A.handled = none → PVs prog w base vs cs → cs.length ≤ 4 → ok cs → env.scope.kind = .function → env.kindOf ("self" : Str) = some .local → m ("self" : Str) = some (.ref x) →
      env.kindOf xe.arg = some .local → m xe.arg = some (.ref D) →
      Ev prog w A E ((env :: envs).filterMap (·.frame)) s (.Call (.Attribute (.Name "self" op) "maximum" apos) [.Starred (.Name xe.arg p2) p] [] pos) env (fun v => ∃ t, v = .int (M cs) t)) :
    Answers prog w base 80 1 f [.ref x] ok (fun cs v => IsRes (quickS M cs) v) := by
  intro A s envs R vs cs S hroom hu hh hpv h4 hok k
  have h4' : vs.length ≤ 4 := by rw [hpv.length]; exact h4
  refine enter_rest (binds := fun D => [(("self" : Str), .ref x), (xe.arg, .ref D)]) S ho hd hcd hlim (by omega) (bind_rest1 h4') (fun _ => rfl) (fun D y hy => ?_) (fun D L' h₁ tk st₁ ff₁ k₁ hD hDL hDn hLn hn => ?_) hco hgen hk hcell
  · simp only [List.mem_cons, List.not_mem_nil, or_false] at hy
    rcases hy with rfl | rfl
    · exact hsk
    · exact hxk
  · have hfr : (A.deeper (envOf qual scope L' f cdv)).frames = some (envOf qual scope L' f cdv :: envs) := by show A.frames.map (envOf qual scope L' f cdv :: ·) = _; rw [S.fr]; rfl
    have X : Entered (A.deeper (envOf qual scope L' f cdv)) envs base (envOf qual scope L' f cdv) (fun y => ([(("self" : Str), (.ref x : Value)), (xe.arg, .ref D)] : List (Str × Value)).reverse.lookup y) D vs h₁ := ⟨⟨hfr, ff₁, st₁⟩, hn, ⟨_, hD, rfl, _, rfl⟩⟩
    have hmx : ([(("self" : Str), (.ref x : Value)), (xe.arg, .ref D)] : List (Str × Value)).reverse.lookup xe.arg = some (.ref D) := by simp
    have hms : ([(("self" : Str), (.ref x : Value)), (xe.arg, .ref D)] : List (Str × Value)).reverse.lookup ("self" : Str) = some (.ref x) := by
      have : (("self" : Str) == xe.arg) = false := by rw [beq_eq_false_iff_ne]; exact fun e => hxs e.symm
      simp [List.lookup, this]
    have hroom' : (A.deeper (envOf qual scope L' f cdv)).depth + 0 < recursionLimit := by show A.depth + 1 + 0 < _; omega
    have hu' : (A.deeper (envOf qual scope L' f cdv)).units + 70 < cLine := by show A.units + 3 + 70 < cLine; omega
    refine quick_body (s := { s with heap := h₁, toks := tk }) (env := envOf qual scope L' f cdv) (Res := fun v => IsRes (quickS M cs) v) hh T X hpv h4 hlen hall hlenk hallk rfl rfl hk hxk hxd hmx (fun c => ?_) (fun c => ?_)
      (ev_static (res := fun cs v => v = .bool (allEq cs)) ai X hroom' hu' hh hpv h4 trivial hk hsk (by decide) hms hxk hxd hmx V.k V.i SI.g SI.fo SI.p SI.keep) (fun _ => rfl) (fun c e => ?_) (fun c e fl => ev_int fun t => ?_) (fun c e fl => ?_) fun h' tk' v r kk => ?_
    · have : quickS M cs = some (M cs) := by unfold quickS; rw [if_pos (by rw [c]; simp)]
      rw [this]; exact em X hroom' hu' hh hpv h4 hok hk hsk hms hxk hmx
    · have : quickS M cs = some (M cs) := by unfold quickS; rw [if_pos (by omega)]
      rw [this]; exact em X hroom' hu' hh hpv h4 hok hk hsk hms hxk hmx
    · have : quickS M cs = some (M cs) := by unfold quickS; rw [if_neg (by omega), if_pos e]
      rw [this]; exact em X hroom' hu' hh hpv h4 hok hk hsk hms hxk hmx
    · unfold quickS; rw [if_neg (by omega), if_neg (by simp [e]), if_neg (by simp [fl])]; exact ⟨t, rfl⟩
    · unfold quickS; rw [if_neg (by omega), if_neg (by simp [e]), if_pos fl]; rfl
    · exact k v h' tk' r (FK.leave (env := envOf qual scope L' f cdv) (L' := L') rfl hLn k₁ kk)
end
end
end Mine

namespace Mine
section
variable {prog : Program} {w : World} {A : Around} {E : Value → Shared → Prop} {s : Shared} {env : Env}

/-- a comprehension over a list in the heap, where all that is evaluated keeps the heap -/
theorem comp_list {elt iter : Expr} {x : Str} {px : Pos} {ifs : List Expr} {scope : Scope} {cl : List (Str × Addr)} {pos : Pos} {Q : Value → Shared → Prop} {l : Addr} {its : Array Value} (p : Value → Bool) (F : Value → Value → Prop)
    (hh : A.handled = none) (hclos : closureFor scope env = pure cl) (hcell : ∀ y ∈ scope.names, y.2 ≠ .cell) (hkind : scope.kind = .function)
    (hnames : ∀ y ∈ scope.names, y.2 = .local → scope.names.lookup y.1 = some .local) (hx : scope.names.lookup x = some .local)
    (hl : s.heap.IsList l its) (hsz : its.size ≤ sizeLine) (hiter : ∀ Q', Q' (.ref l) s → wpAny (model prog w) A (eval iter env) Q' E s)
    (tests : ∀ C (i : Nat) v s₃ m₃ E', its[i]? = some v → s₃.heap.Ns C m₃ → m₃ x = some v → (∀ b o, s.heap.get? b = some o → s₃.heap.get? b = some o) →
      wpAny (model prog w) A (forIn ifs true fun c r => if r = true then do let ok ← isTrue c (compEnvC scope cl C env) (eval c (compEnvC scope cl C env)); pure (ForInStep.yield ok) else pure (ForInStep.yield r))
        (fun ok s₄ => ok = p v ∧ Keeps s₃ s₄) E' s₃)
    (helt : ∀ C (i : Nat) v s₃ m₃ E', its[i]? = some v → p v = true → s₃.heap.Ns C m₃ → m₃ x = some v → (∀ b o, s.heap.get? b = some o → s₃.heap.get? b = some o) →
      wpAny (model prog w) A (eval elt (compEnvC scope cl C env)) (fun y s₄ => F v y ∧ Keeps s₃ s₄) E' s₃)
    (hs : ∀ x, foldedSetIterable iter env x = pure x)
    (hQ : ∀ D h' tk (ys : Array Value), s.heap.get? D = none → h'.PlainList D ys → Paired F (its.toList.filter p) ys.toList → (∀ b o, s.heap.get? b = some o → h'.get? b = some o) → Q (.ref D) { s with heap := h', toks := tk }) :
    wpAny (model prog w) A (eval (.ListComp elt [⟨.Name x px, iter, ifs, 0⟩] scope pos) env) Q E s := by
  have hlt : l < s.heap.objs.size := by obtain ⟨_, e, _⟩ := hl; exact Heap.lt_size e
  refine wpAny_ListComp_free p F hclos hcell hkind hnames hx (hiter _ (wpAny_pyIter_list hl ?_)) hs
  have up : ∀ {h : Heap}, (∀ b o, b ∉ [s.heap.objs.size] → (s.heap.push { cls := .type "list_iterator", data := .fields #[.ref l, .int 0 0] }).get? b = some o → h.get? b = some o) → ∀ b o, s.heap.get? b = some o → h.get? b = some o :=
    fun k b o e => k b o (fun hm => by rcases List.mem_cons.mp hm with rfl | hm; exact Nat.lt_irrefl _ (Heap.lt_size e); cases hm) (Heap.get?_push_of_some _ e)
  refine ⟨s.heap.objs.size, [s.heap.objs.size, l], [s.heap.objs.size], its.size, _, _, rfl, Walks.list hh _ l (Nat.ne_of_lt hlt) its, hsz, ⟨⟨_, Heap.get?_push_size _ rfl, rfl, rfl⟩, hl.push _⟩, ?_, ⟨?_, ?_⟩, ?_⟩
  · intro b hb
    show b < (s.heap.push _).objs.size
    rw [Heap.size_push]
    simp only [List.mem_cons, List.not_mem_nil, or_false] at hb
    rcases hb with rfl | rfl
    · exact Nat.lt_succ_self _
    · exact Nat.lt_succ_of_lt hlt
  · intro C i v s₃ m₃ E' _ hP hn hm hk _
    exact tests C i v s₃ m₃ E' hP hn hm (up hk)
  · intro C i v s₃ m₃ E' _ hP hp hn hm hk _
    exact helt C i v s₃ m₃ E' hP hp hn hm (up hk)
  · intro D h' tk ys vs hD _ hpl hlen hP hF hk
    have e : vs = its.toList := by
      apply List.ext_getElem?
      intro j
      by_cases hj : j < vs.length
      · have h1 := hP j vs[j] (List.getElem?_eq_getElem hj)
        rw [List.getElem?_eq_getElem hj, ← h1]
        simp
      · rw [List.getElem?_eq_none (by omega), List.getElem?_eq_none (by simp; omega)]
    rw [e] at hF
    refine hQ D h' tk ys ?_ hpl hF (up hk)
    cases q : s.heap.get? D with
    | none => rfl
    | some o => rw [Heap.get?_push_of_some _ q] at hD; cases hD

/-- a comprehension over range(n) -/
theorem comp_range {elt iter : Expr} {x : Str} {px : Pos} {scope : Scope} {cl : List (Str × Addr)} {pos : Pos} {Q : Value → Shared → Prop} {n : Nat} (F : Value → Value → Prop)
    (hh : A.handled = none) (hclos : closureFor scope env = pure cl) (hcell : ∀ y ∈ scope.names, y.2 ≠ .cell) (hkind : scope.kind = .function)
    (hnames : ∀ y ∈ scope.names, y.2 = .local → scope.names.lookup y.1 = some .local) (hx : scope.names.lookup x = some .local) (hn : n ≤ 1000)
    (hiter : ∀ Q', (∀ r h' tk t u v, (∀ b o, s.heap.get? b = some o → h'.get? b = some o) → IsRange h' r 0 n 1 t u v → Q' (.ref r) { s with heap := h', toks := tk }) → wpAny (model prog w) A (eval iter env) Q' E s)
    (helt : ∀ C (i : Nat) t s₃ m₃ E', i < n → s₃.heap.Ns C m₃ → m₃ x = some (.int i t) → (∀ b o, s.heap.get? b = some o → s₃.heap.get? b = some o) →
      wpAny (model prog w) A (eval elt (compEnvC scope cl C env)) (fun y s₄ => F (.int i t) y ∧ Keeps s₃ s₄) E' s₃)
    (hs : ∀ x, foldedSetIterable iter env x = pure x)
    (hQ : ∀ D h' tk (ys : Array Value) (vs : List Value), s.heap.get? D = none → h'.PlainList D ys → vs.length = n → Paired F vs ys.toList → (∀ b o, s.heap.get? b = some o → h'.get? b = some o) → Q (.ref D) { s with heap := h', toks := tk }) :
    wpAny (model prog w) A (eval (.ListComp elt [⟨.Name x px, iter, [], 0⟩] scope pos) env) Q E s := by
  refine wpAny_ListComp_free (fun _ => true) F hclos hcell hkind hnames hx (hiter _ fun r h₁ tk₁ t u v k₁ hr => ?_) hs
  have hs1 : Builtin.Range.rangeSize 0 n 1 = n := by rw [rangeSize_one]; split <;> omega
  refine wpAny_pyIter_range hr (small_one (by omega) (by omega) (by omega) (by omega)) ?_
  have up : ∀ {h : Heap}, (∀ b o, b ∉ [h₁.objs.size] → (h₁.push { cls := .type "range_iterator", data := .fields #[rawInt 0, rawInt (Builtin.Range.rangeSize 0 n 1), rawInt 1] }).get? b = some o → h.get? b = some o) → ∀ b o, s.heap.get? b = some o → h.get? b = some o :=
    fun k b o e => k b o (fun hm => by rcases List.mem_cons.mp hm with rfl | hm; exact Nat.lt_irrefl _ (Heap.lt_size (k₁ _ _ e)); cases hm) (Heap.get?_push_of_some _ (k₁ _ _ e))
  refine ⟨h₁.objs.size, [h₁.objs.size], [h₁.objs.size], n, _, _, rfl, (Walks.range hh _ 0 1 n).bound, (by rw [sizeLine_eq]; omega), (by show IsRangeIter _ _ _ _ _; rw [hs1]; simpa using Heap.get?_push_size _ rfl), ?_, ⟨?_, ?_⟩, ?_⟩
  · intro b hb
    show b < (h₁.push _).objs.size
    rw [Heap.size_push]
    simp only [List.mem_cons, List.not_mem_nil, or_false] at hb
    subst hb
    exact Nat.lt_succ_self _
  · intro C i v s₃ m₃ E' _ hP hn' hm hk _
    exact wpAny_pure ⟨rfl, s₃.heap, s₃.toks, rfl, fun _ _ e => e⟩
  · intro C i v s₃ m₃ E' _ hP _ hn' hm hk _
    obtain ⟨hi, t', rfl⟩ := hP
    have e : (0 : Int) + (i : Nat) * 1 = (i : Int) := by omega
    rw [e] at hm ⊢
    exact helt C i t' s₃ m₃ E' hi hn' hm (up hk)
  · intro D h' tk ys vs hD _ hpl hlen hP hF hk
    refine hQ D h' tk ys vs ?_ hpl hlen (by rwa [List.filter_eq_self.mpr (fun _ _ => rfl)] at hF) (up hk)
    cases q : s.heap.get? D with
    | none => rfl
    | some o => rw [Heap.get?_push_of_some _ (k₁ _ _ q)] at hD; cases hD

/-- l[i] of a list in the heap -/
theorem item_list {value slice : Expr} {pos : Pos} {l : Addr} {its : Array Value} {k : Int} {v : Value} {Q : Value → Shared → Prop}
    (hs : ∀ o i, subscripted slice false o i = operate [o, i] (getItem o i)) (ht : ∀ o r, letTemporaryGo value o r = pure ())
    (h : wpAny (model prog w) A (eval value env) (fun o s₁ => o = .ref l ∧ wpAny (model prog w) A (eval slice env) (fun i s₂ => (∃ u, i = .int k u) ∧ s₂.heap.IsList l its ∧ 0 ≤ k ∧ k < 2 ^ 63 ∧ its[k.toNat]? = some v ∧ Q v s₂) E s₁) E s) :
    wpAny (model prog w) A (eval (.Subscript value slice pos) env) Q E s := by
  refine Subscript_ (wpAny_mono h (fun o s₁ h₁ => ?_) fun _ _ e => e)
  obtain ⟨rfl, h₁⟩ := h₁
  refine wpAny_mono h₁ (fun i s₂ h₂ => ?_) fun _ _ e => e
  obtain ⟨⟨u, rfl⟩, hl, h0, hfit, hx, hq⟩ := h₂
  exact subscriptTail_builtin hl.typeIs F.slot_list_getitem.lookup (wpAny_getItem_list hl h0 hfit hx hq) (hs _ _) (ht _)
end
end Mine

namespace Mine
section
variable {M : Model} {A : Around} {E : Value → Shared → Prop} {s : Shared} {env : Env} {m : Str → Option Value}
theorem nm_local {x : Str} {p : Pos} {v : Value} {Q : Value → Shared → Prop} (hk : env.scope.kind = .function) (hx : env.kindOf x = some .local) (hd : (x == ("__debug__" : Str)) = false) (hn : s.heap.Ns env.locals m) (hm : m x = some v) (h : Q v s) :
    wpAny M A (eval (.Name x p) env) Q E s := wpAny_Name (wpAny_loadName_local hk hx hn hm h) hd
theorem nm_cell {x : Str} {p : Pos} {v : Value} {c : Addr} {Q : Value → Shared → Prop} (hk : env.scope.kind = .function) (hx : env.kindOf x = some .cell) (hd : (x == ("__debug__" : Str)) = false) (hc : env.cells.lookup x = some c) (hv : s.heap.IsCell c (some v)) (h : Q v s) :
    wpAny M A (eval (.Name x p) env) Q E s := wpAny_Name (wpAny_loadName_cell hk hx hc hv h) hd
end

/-- the block's own names -/
structure Blk (env : Env) (scope : Scope) (cl : List (Str × Addr)) (x : Str) : Prop where
  clos : closureFor scope env = pure cl
  cell : ∀ y ∈ scope.names, y.2 ≠ .cell
  kind : scope.kind = .function
  names : ∀ y ∈ scope.names, y.2 = .local → scope.names.lookup y.1 = some .local
  loc0 : scope.names.lookup x = some .local
  xd : (x == ("__debug__" : Str)) = false
theorem Blk.loc {env : Env} {scope : Scope} {cl : List (Str × Addr)} {x : Str} (B : Blk env scope cl x) (C : Addr) : (compEnvC scope cl C env).kindOf x = some .local := lookup_relabel_local B.loc0

structure LawEnv (env : Env) : Prop where
  g : env.globals = mainGlobals
  b : env.builtins = builtinsNs
  k : env.scope.kind = .function

section
variable {prog : Program} {w : World} {A : Around} {E : Value → Shared → Prop} {s : Shared} {env : Env} {m mg mb : Str → Option Value} {base : Heap} {scope : Scope} {cl : List (Str × Addr)}

theorem comp_picked {kx many sc : Str} {p1 p2 p3 p4 p5 p6 p7 p8 p9 q1 q2 q3 q4 q5 r1 r2 r3 px pos : Pos} {k1 k2 : Nat} {c l : Addr} {its : Array Value} {mny : Int} {tn : Tok} {Q : Value → Shared → Prop}
    (hh : A.handled = none) (T : Names base mg mb) (hst : base.StaysIn s.heap) (V : LawEnv env) (B : Blk env scope cl kx)
    (hns : s.heap.Ns env.locals m) (hmk : env.kindOf many = some .local) (hmd : (many == ("__debug__" : Str)) = false) (hmm : m many = some (.int mny tn)) (h0 : 0 ≤ mny) (h4 : mny ≤ 4)
    (hrg : mg "range" = none) (hlen : mg "len" = none) (hrk : env.kindOf "range" = some .globalImplicit) (hlk : ∀ C, (compEnvC scope cl C env).kindOf "len" = some .globalImplicit) (hsk : ∀ C, (compEnvC scope cl C env).kindOf sc = some .cell) (hsd : (sc == ("__debug__" : Str)) = false)
    (hck : cl.lookup sc = some c) (hcv : s.heap.IsCell c (some (.ref l))) (hl : s.heap.IsList l its) (hints : ∀ v ∈ its.toList, ∃ i t, v = .int i t) (hls : its.size ≤ 1000)
    (hs : ∀ x, foldedSetIterable (.Call (.Name "range" r1) [.Name many r2] [] r3) env x = pure x)
    (hsub : ∀ o i, subscripted (.BinOp (.Name kx p9) .Add (.Constant (.int 1) k2 q1) q2) false o i = operate [o, i] (getItem o i)) (hgo : ∀ o r, letTemporaryGo (.Name sc p8) o r = pure ())
    (hQ : ∀ D h' tk (ys : Array Value), s.heap.get? D = none → h'.PlainList D ys → (ys.size : Int) = mny → (∀ v ∈ ys.toList, ∃ i t, v = .int i t) → (∀ b o, s.heap.get? b = some o → h'.get? b = some o) → Q (.ref D) { s with heap := h', toks := tk }) :
    wpAny (model prog w) A (eval (.ListComp (.IfExp (.Compare (.BinOp (.Name kx p1) .Add (.Constant (.int 1) k1 p2) p3) [.Lt] [.Call (.Name "len" p4) [.Name sc p5] [] p6] p7)
      (.Subscript (.Name sc p8) (.BinOp (.Name kx p9) .Add (.Constant (.int 1) k2 q1) q2) q3) (.Name kx q4) q5) [⟨.Name kx px, .Call (.Name "range" r1) [.Name many r2] [] r3, [], 0⟩] scope pos) env) Q E s := by
  obtain ⟨n, rfl⟩ := Int.eq_ofNat_of_zero_le h0
  have hn4 : n ≤ 4 := by omega
  refine comp_range (n := n) (fun _ y => ∃ i t, y = .int i t) hh B.clos B.cell B.kind B.names B.loc0 (by omega) (fun Q' hq => ?_) (fun C i t s₃ m₃ E' hi hn hm k => ?_) hs fun D h' tk ys vs hD hp hlv hP k => ?_
  · refine Call_ (name_built T hst hrg PyProof.Rows.boot_range (by decide) V.g V.b V.k hrk (by decide) ?_)
    refine callWith_type1 (he := rfl) (hplain := rfl) (args_cons (he := rfl) (nm_local V.k hmk hmd hns hmm ?_))
    refine args_nil (call_range_1 ?_)
    exact hq _ _ _ _ _ _ (fun b o e => Heap.get?_push_of_some _ e) (Heap.get?_push_size _ rfl)
  · have st₃ : base.StaysIn s₃.heap := fun b o e => k b o (hst b o e)
    have cell₃ : s₃.heap.IsCell c (some (.ref l)) := hcv.keeps k
    have l₃ : s₃.heap.IsList l its := by obtain ⟨o, q, r⟩ := hl; exact ⟨o, k _ _ q, r⟩
    refine wpAny_IfExp (wpAny_isTrue_Compare1 (wpAny_BinOp (nm_local (env := compEnvC scope cl C env) B.kind (B.loc C) B.xd hn hm (wpAny_Constant_int ?_))))
    refine PyProof.Rows.add_int ?_
    refine Call_ (name_built (s := { s₃ with toks := _ }) T st₃ hlen PyProof.Rows.bootS_len (by decide) V.g V.b B.kind (hlk C) (by decide) ?_)
    refine callWith_builtin1 (he := rfl) (hplain := rfl) (args_cons (he := rfl) (nm_cell (s := { s₃ with toks := _ }) (env := compEnvC scope cl C env) B.kind (hsk C) hsd hck cell₃ ?_))
    refine args_nil (PyProof.Rows.len_list (s := { s₃ with toks := _ }) l₃ (by omega) ?_)
    refine PyProof.Rows.lt_int (wpAny_truthy_bool ?_)
    by_cases hlt : (i : Int) + 1 < (its.size : Int)
    · simp only [decide_eq_true hlt, if_true]
      have hi1 : i + 1 < its.size := by omega
      have hget : its[((i : Int) + 1).toNat]? = some its[i + 1] := by
        have : ((i : Int) + 1).toNat = i + 1 := by omega
        rw [this]; simp [hi1]
      refine Mine.item_list (its := its) (k := (i : Int) + 1) (v := its[i + 1]) hsub hgo (nm_cell (s := { s₃ with toks := _ }) (env := compEnvC scope cl C env) B.kind (hsk C) hsd hck cell₃ ⟨rfl, ?_⟩)
      refine wpAny_BinOp (nm_local (s := { s₃ with toks := _ }) (env := compEnvC scope cl C env) B.kind (B.loc C) B.xd hn hm (wpAny_Constant_int (PyProof.Rows.add_int ⟨⟨_, rfl⟩, l₃, by omega, by omega, hget, ?_⟩)))
      exact ⟨hints _ (by simp), s₃.heap, _, rfl, fun _ _ e => e⟩
    · simp only [decide_eq_false hlt, Bool.false_eq_true, if_false]
      refine nm_local (s := { s₃ with toks := _ }) (env := compEnvC scope cl C env) B.kind (B.loc C) B.xd hn hm ?_
      exact ⟨⟨_, _, rfl⟩, s₃.heap, _, rfl, fun _ _ e => e⟩
  · have e : ∀ {vs ys : List Value}, Paired (fun _ y => ∃ i t, y = Value.int i t) vs ys → vs.length = ys.length ∧ ∀ v ∈ ys, ∃ i t, v = .int i t := by
      intro vs ys h
      induction h with
      | nil => exact ⟨rfl, fun v hv => by cases hv⟩
      | cons a b ih => exact ⟨by simp [ih.1], fun v hv => by
          rcases List.mem_cons.mp hv with r | r
          · subst r; exact a
          · exact ih.2 v r⟩
    obtain ⟨e1, e2⟩ := e hP
    exact hQ D h' tk ys hD hp (by have : ys.size = ys.toList.length := by simp
                                  omega) e2 k
end
end Mine

namespace Mine
def IsInt (v : Value) : Prop := ∃ i t, v = .int i t
theorem paired_mem {P : Value → Prop} : ∀ {vs ys : List Value}, Paired (fun _ y => P y) vs ys → vs.length = ys.length ∧ ∀ v ∈ ys, P v := by
  intro vs ys h
  induction h with
  | nil => exact ⟨rfl, fun v hv => by cases hv⟩
  | cons a b ih => exact ⟨by simp [ih.1], fun v hv => by
      rcases List.mem_cons.mp hv with r | r
      · subst r; exact a
      · exact ih.2 v r⟩

section
variable {prog : Program} {w : World} {A : Around} {E : Value → Shared → Prop} {s : Shared} {env : Env} {m mg mb : Str → Option Value} {base : Heap} {scope : Scope} {cl : List (Str × Addr)}

/-- [pool[ix] for number in picked], ix below ten -/
theorem comp_pool {ix iter : Expr} {nx po : Str} {p1 p2 px pos : Pos} {c l lp : Addr} {its pool : Array Value} {Q : Value → Shared → Prop}
    (hh : A.handled = none) (B : Blk env scope cl nx) (hiter : ∀ Q', Q' (.ref l) s → wpAny (model prog w) A (eval iter env) Q' E s) (hl : s.heap.IsList l its) (hints : ∀ v ∈ its.toList, IsInt v) (hls : its.size ≤ 1000)
    (hpk : ∀ C, (compEnvC scope cl C env).kindOf po = some .cell) (hpd : (po == ("__debug__" : Str)) = false) (hck : cl.lookup po = some c) (hcv : s.heap.IsCell c (some (.ref lp))) (hlp : s.heap.IsList lp pool) (hp10 : pool.size = 10)
    (hix : ∀ C v s₃ m₃ E' Q', v ∈ its.toList → IsInt v → s₃.heap.Ns C m₃ → m₃ nx = some v → (∀ b o, s.heap.get? b = some o → s₃.heap.get? b = some o) → (∀ i t tk, 0 ≤ i → i < 10 → Q' (.int i t) { s₃ with toks := tk }) →
      wpAny (model prog w) A (eval ix (compEnvC scope cl C env)) Q' E' s₃)
    (hs : ∀ x, foldedSetIterable iter env x = pure x)
    (hsub : ∀ o i, subscripted ix false o i = operate [o, i] (getItem o i)) (hgo : ∀ o r, letTemporaryGo (.Name po p1) o r = pure ())
    (hQ : ∀ D h' tk (ys : Array Value), s.heap.get? D = none → h'.PlainList D ys → ys.size = its.size → (∀ v ∈ ys.toList, v ∈ pool.toList) → (∀ b o, s.heap.get? b = some o → h'.get? b = some o) → Q (.ref D) { s with heap := h', toks := tk }) :
    wpAny (model prog w) A (eval (.ListComp (.Subscript (.Name po p1) ix p2) [⟨.Name nx px, iter, [], 0⟩] scope pos) env) Q E s := by
  refine comp_list (fun _ => true) (fun _ y => y ∈ pool.toList) hh B.clos B.cell B.kind B.names B.loc0 hl (by rw [sizeLine_eq]; omega) hiter (fun C i v s₃ m₃ E' hv hn hm k => ?_) (fun C i v s₃ m₃ E' hv _ hn hm k => ?_) hs fun D h' tk ys hD hpl hP k => ?_
  · exact wpAny_pure ⟨rfl, s₃.heap, s₃.toks, rfl, fun _ _ e => e⟩
  · have hmem : v ∈ its.toList := by rw [Array.mem_toList_iff]; exact Array.mem_of_getElem? hv
    have l₃ : s₃.heap.IsList lp pool := by obtain ⟨o, q, r⟩ := hlp; exact ⟨o, k _ _ q, r⟩
    refine Subscript_ (nm_cell (env := compEnvC scope cl C env) B.kind (hpk C) hpd hck (hcv.keeps k) ?_)
    refine hix C v s₃ m₃ E' _ hmem (hints v hmem) hn hm k fun i t tk h0 h10 => ?_
    have hlt : i.toNat < pool.size := by omega
    refine subscriptTail_builtin (T := "list") l₃.typeIs F.slot_list_getitem.lookup (wpAny_getItem_list (s := { s₃ with toks := tk }) (x := pool[i.toNat]) l₃ h0 (by omega) (by simp [hlt]) ?_) (hsub _ _) (hgo _)
    exact ⟨by simp, s₃.heap, tk, rfl, fun _ _ e => e⟩
  · rw [List.filter_eq_self.mpr (fun _ _ => rfl)] at hP
    obtain ⟨e1, e2⟩ := paired_mem (P := fun y => y ∈ pool.toList) hP
    exact hQ D h' tk ys hD hpl (by simpa using e1.symm) e2 k

theorem fmod_in (a : Int) {b : Int} (hb : 0 < b) : 0 ≤ a.fmod b ∧ a.fmod b < b := ⟨Int.fmod_nonneg_of_pos a hb, Int.fmod_lt_of_pos a hb⟩

/-- number % 10 -/
theorem ix_mod {nx : Str} {p1 p2 p3 : Pos} {k : Nat} {C : Addr} {v : Value} {s₃ : Shared} {m₃ : Str → Option Value} {E' : Value → Shared → Prop} {Q' : Value → Shared → Prop} {b : Int} (hb : 0 < b) (B : Blk env scope cl nx)
    (hv : IsInt v) (hn : s₃.heap.Ns C m₃) (hm : m₃ nx = some v) (h : ∀ i t tk, 0 ≤ i → i < b → Q' (.int i t) { s₃ with toks := tk }) :
    wpAny (model prog w) A (eval (.BinOp (.Name nx p1) .Mod (.Constant (.int b) k p2) p3) (compEnvC scope cl C env)) Q' E' s₃ := by
  obtain ⟨i, t, rfl⟩ := hv
  refine wpAny_BinOp (nm_local (env := compEnvC scope cl C env) B.kind (B.loc C) B.xd hn hm (wpAny_Constant_int ?_))
  refine PyProof.Rows.mod_int (by omega) ?_
  exact h _ _ _ (fmod_in i hb).1 (fmod_in i hb).2

theorem things_stmt {way nx pk po fl th : Str} {w0 w1 w2 w3 w4 w5 w6 w7 a1 a2 a3 b1 b2 b3 b4 b5 b6 b7 b8 b9 d1 d2 d3 d4 d5 d6 d7 d8 d9 e1 e2 e3 e4 e5 e6 e7 e8 e9 f1 f2 f3 : Pos} {k0 k1 k2 k3 k4 k5 : Nat}
    {s0 s1 s2 : Scope} {cl0 cl1 cl2 : List (Str × Addr)} {cpk cpo cfl l lp lf : Addr} {its pool full : Array Value} {wy : Int} {tw : Tok} {Q : Flow → Shared → Prop}
    (hh : A.handled = none) (V : LawEnv env) (B0 : Blk env s0 cl0 nx) (B1 : Blk env s1 cl1 nx) (B2 : Blk env s2 cl2 nx)
    (hns : s.heap.Ns env.locals m) (hwk : env.kindOf way = some .local) (hwd : (way == ("__debug__" : Str)) = false) (hwm : m way = some (.int wy tw))
    (hpk : env.kindOf pk = some .cell) (hpkd : (pk == ("__debug__" : Str)) = false) (hpkc : env.cells.lookup pk = some cpk) (hpkv : s.heap.IsCell cpk (some (.ref l))) (hl : s.heap.IsList l its) (hints : ∀ v ∈ its.toList, IsInt v) (hls : its.size ≤ 1000)
    (hpod : (po == ("__debug__" : Str)) = false) (hcpo : s.heap.IsCell cpo (some (.ref lp))) (hlp : s.heap.IsList lp pool) (hp10 : pool.size = 10)
    (hfld : (fl == ("__debug__" : Str)) = false) (hcfl : s.heap.IsCell cfl (some (.ref lf))) (hlf : s.heap.IsList lf full) (hf7 : full.size = 7) (hfull : ∀ v ∈ full.toList, ∃ i t, v = .int i t ∧ 0 ≤ i ∧ i < 10)
    (po0 : ∀ C, (compEnvC s0 cl0 C env).kindOf po = some .cell) (po1 : ∀ C, (compEnvC s1 cl1 C env).kindOf po = some .cell) (po2 : ∀ C, (compEnvC s2 cl2 C env).kindOf po = some .cell)
    (cp0 : cl0.lookup po = some cpo) (cp1 : cl1.lookup po = some cpo) (cp2 : cl2.lookup po = some cpo)
    (pk0 : ∀ C, (compEnvC s0 cl0 C env).kindOf pk = some .cell) (ck0 : cl0.lookup pk = some cpk) (fl1 : ∀ C, (compEnvC s1 cl1 C env).kindOf fl = some .cell) (cf1 : cl1.lookup fl = some cfl)
    (hs : ∀ p x, foldedSetIterable (.Name pk p) env x = pure x)
    (sb0 : ∀ o i, subscripted (.BinOp (.Subscript (.Name pk b2) (.Constant (.int 0) k1 b3) b4) .Mod (.Constant (.int 10) k2 b5) b6) false o i = operate [o, i] (getItem o i))
    (sb0' : ∀ o i, subscripted (.Constant (.int 0) k1 b3) false o i = operate [o, i] (getItem o i))
    (sb1 : ∀ o i, subscripted (.Subscript (.Name fl d2) (.BinOp (.Name nx d3) .Mod (.Constant (.int 7) k4 d4) d5) d6) false o i = operate [o, i] (getItem o i))
    (sb1' : ∀ o i, subscripted (.BinOp (.Name nx d3) .Mod (.Constant (.int 7) k4 d4) d5) false o i = operate [o, i] (getItem o i))
    (sb2 : ∀ o i, subscripted (.BinOp (.Name nx e2) .Mod (.Constant (.int 10) k5 e3) e4) false o i = operate [o, i] (getItem o i))
    (hgo : ∀ x p o r, letTemporaryGo (.Name x p) o r = pure ())
    (sw0 : swapsWith (.ListComp (.Subscript (.Name po b1) (.BinOp (.Subscript (.Name pk b2) (.Constant (.int 0) k1 b3) b4) .Mod (.Constant (.int 10) k2 b5) b6) b7) [⟨.Name nx b8, .Name pk b9, [], 0⟩] s0 a1) (some (.Name th a2)) a3.line env = pure false)
    (sw1 : swapsWith (.ListComp (.Subscript (.Name po d1) (.Subscript (.Name fl d2) (.BinOp (.Name nx d3) .Mod (.Constant (.int 7) k4 d4) d5) d6) d7) [⟨.Name nx d8, .Name pk d9, [], 0⟩] s1 w4) (some (.Name th w5)) w6.line env = pure false)
    (sw2 : swapsWith (.ListComp (.Subscript (.Name po e1) (.BinOp (.Name nx e2) .Mod (.Constant (.int 10) k5 e3) e4) e5) [⟨.Name nx e6, .Name pk e7, [], 0⟩] s2 f1) (some (.Name th f2)) f3.line env = pure false)
    (hQ : ∀ D h' tk (ys : Array Value), s.heap.get? D = none → h'.PlainList D ys → ys.size = its.size → (∀ v ∈ ys.toList, v ∈ pool.toList) → (∀ b o, s.heap.get? b = some o → h'.get? b = some o) →
      wpAny (model prog w) A (storeName env th (.ref D)) (fun _ => Q .next) E { s with heap := h', toks := tk }) :
    wpAny (model prog w) A (exec (.If (.Compare (.Name way w0) [.Eq] [.Constant (.int 0) k0 w1] w2)
        [.Assign [.Name th a2] (.ListComp (.Subscript (.Name po b1) (.BinOp (.Subscript (.Name pk b2) (.Constant (.int 0) k1 b3) b4) .Mod (.Constant (.int 10) k2 b5) b6) b7) [⟨.Name nx b8, .Name pk b9, [], 0⟩] s0 a1) a3]
      [.If (.Compare (.Name way w3) [.Eq] [.Constant (.int 1) k3 w7] e8)
        [.Assign [.Name th w5] (.ListComp (.Subscript (.Name po d1) (.Subscript (.Name fl d2) (.BinOp (.Name nx d3) .Mod (.Constant (.int 7) k4 d4) d5) d6) d7) [⟨.Name nx d8, .Name pk d9, [], 0⟩] s1 w4) w6]
        [.Assign [.Name th f2] (.ListComp (.Subscript (.Name po e1) (.BinOp (.Name nx e2) .Mod (.Constant (.int 10) k5 e3) e4) e5) [⟨.Name nx e6, .Name pk e7, [], 0⟩] s2 f1) f3] e9] pos) env) Q E s := by
  have up : ∀ {s' : Shared}, (∀ b o, s.heap.get? b = some o → s'.heap.get? b = some o) → s'.heap.IsList l its ∧ s'.heap.IsList lf full := fun k => ⟨by obtain ⟨o, q, r⟩ := hl; exact ⟨o, k _ _ q, r⟩, by obtain ⟨o, q, r⟩ := hlf; exact ⟨o, k _ _ q, r⟩⟩
  refine wpAny_If (wpAny_isTrue_Compare1 (nm_local V.k hwk hwd hns hwm (wpAny_Constant_int (PyProof.Rows.eq_int (wpAny_truthy_bool ?_)))))
  split
  · refine wpAny_execs_cons (wpAny_Assign_Name ?_ sw0)
    refine comp_pool (s := { s with toks := _ }) hh B0 (fun Q' hq => nm_cell (s := { s with toks := _ }) V.k hpk hpkd hpkc hpkv hq) hl hints hls po0 hpod cp0 hcpo hlp hp10 (fun C v s₃ m₃ E' Q' hv hi hn hm k h => ?_) (hs _) sb0 (hgo _ _) fun D h' tk ys e1 e2 e3 e4 e5 => wpAny_mono (hQ D h' tk ys e1 e2 e3 e4 e5) (fun _ _ z => wpAny_execs_nil z) fun _ _ z => z
    -- picked[0] % 10
    have hpos : 0 < its.size := by
      have := List.length_pos_of_mem hv; simpa using this
    obtain ⟨i, t, hi0⟩ := hints its[0] (by simp)
    refine wpAny_BinOp ?_
    refine Mine.item_list (its := its) (k := 0) (v := its[0]) sb0' (hgo _ _) (nm_cell (env := compEnvC s0 cl0 C env) B0.kind (pk0 C) hpkd ck0 (hpkv.keeps k) ⟨rfl, wpAny_Constant_int ⟨⟨_, rfl⟩, (up k).1, Int.le_refl _, by decide, by simp, ?_⟩⟩)
    rw [hi0]
    refine wpAny_Constant_int (PyProof.Rows.mod_int (by decide) ?_)
    exact h _ _ _ (fmod_in i (by decide)).1 (fmod_in i (by decide)).2
  · refine wpAny_execs_cons (wpAny_If (wpAny_isTrue_Compare1 (nm_local (s := { s with toks := _ }) V.k hwk hwd hns hwm (wpAny_Constant_int (PyProof.Rows.eq_int (wpAny_truthy_bool ?_))))))
    split
    · refine wpAny_execs_cons (wpAny_Assign_Name ?_ sw1)
      refine comp_pool (s := { s with toks := _ }) hh B1 (fun Q' hq => nm_cell (s := { s with toks := _ }) V.k hpk hpkd hpkc hpkv hq) hl hints hls po1 hpod cp1 hcpo hlp hp10 (fun C v s₃ m₃ E' Q' hv hi hn hm k h => ?_) (hs _) sb1 (hgo _ _) fun D h' tk ys e1 e2 e3 e4 e5 => wpAny_mono (hQ D h' tk ys e1 e2 e3 e4 e5) (fun _ _ z => wpAny_execs_nil (wpAny_execs_nil z)) fun _ _ z => z
      refine Subscript_ (nm_cell (env := compEnvC s1 cl1 C env) B1.kind (fl1 C) hfld cf1 (hcfl.keeps k) (ix_mod (by decide) B1 hi hn hm fun i t tk h0 h7 => ?_))
      have hlt : i.toNat < full.size := by omega
      obtain ⟨j, u, ej, hj0, hj1⟩ := hfull full[i.toNat] (by simp)
      refine subscriptTail_builtin (T := "list") (up k).2.typeIs F.slot_list_getitem.lookup (wpAny_getItem_list (s := { s₃ with toks := tk }) (x := full[i.toNat]) (up k).2 h0 (by omega) (by simp [hlt]) ?_) (sb1' _ _) (hgo _ _ _)
      rw [ej]
      exact h _ _ _ hj0 hj1
    · refine wpAny_execs_cons (wpAny_Assign_Name ?_ sw2)
      refine comp_pool (s := { s with toks := _ }) hh B2 (fun Q' hq => nm_cell (s := { s with toks := _ }) V.k hpk hpkd hpkc hpkv hq) hl hints hls po2 hpod cp2 hcpo hlp hp10 (fun C v s₃ m₃ E' Q' hv hi hn hm k h => ?_) (hs _) sb2 (hgo _ _) fun D h' tk ys e1 e2 e3 e4 e5 => wpAny_mono (hQ D h' tk ys e1 e2 e3 e4 e5) (fun _ _ z => wpAny_execs_nil (wpAny_execs_nil z)) fun _ _ z => z
      exact ix_mod (by decide) B2 hi hn hm h
end
end Mine

namespace Mine
section
variable {prog : Program} {w : World}
theorem strs_fun : ∀ {xs ys : List Str} {l : List Value}, ItemsAre (strKind prog w) xs l → ItemsAre (strKind prog w) ys l → xs = ys
  | _, _, _, .nil, .nil => rfl
  | x :: xs, y :: ys, v :: l, .cons h1 r1, .cons h2 r2 => by
    rw [strs_fun r1 r2, Value.isStrOf_inj v x y h1 h2]
theorem PV.fn {h : Heap} {v : Value} {c e : Cont} (x : PV prog w h v c) (y : PV prog w h v e) : c = e := by
  cases x with
  | str x t ht => cases y; rfl
  | tup a b c d =>
    cases y with
    | tup a' b' c' d' => rw [a] at a'; cases a'; rw [c] at c'; cases c'; rw [strs_fun d d']
    | lst a' b' c' d' => rw [a] at a'; cases a'; rw [b] at b'; exact absurd b' (by decide)
  | lst a b c d =>
    cases y with
    | lst a' b' c' d' => rw [a] at a'; cases a'; rw [c] at c'; cases c'; rw [strs_fun d d']
    | tup a' b' c' d' => rw [a] at a'; cases a'; rw [b] at b'; exact absurd b' (by decide)

theorem PVs.mem {h : Heap} {v : Value} : ∀ {vs : List Value} {cs : List Cont}, PVs prog w h vs cs → v ∈ vs → ∃ c ∈ cs, PV prog w h v c ∧ c.ok = true
  | _, _, .cons p q r, hm => by
    rcases List.mem_cons.mp hm with e | e
    · subst e; exact ⟨_, .head _, p, q⟩
    · obtain ⟨c, a, b⟩ := r.mem e; exact ⟨c, .tail _ a, b⟩

open Classical in
/-- a test on the content, as a test on the value -/
noncomputable def onCont (prog : Program) (w : World) (h : Heap) (f : Cont → Bool) (v : Value) : Bool := decide (∃ c, PV prog w h v c ∧ f c = true)
theorem onCont_eq {h : Heap} {f : Cont → Bool} {v : Value} {c : Cont} (x : PV prog w h v c) : onCont prog w h f v = f c := by
  unfold onCont
  by_cases hf : f c = true
  · rw [hf]; simp only [decide_eq_true_eq]; exact ⟨c, x, hf⟩
  · have : ¬ ∃ e, PV prog w h v e ∧ f e = true := fun ⟨e, a, b⟩ => hf (x.fn a ▸ b)
    have hf' : f c = false := by simpa using hf
    rw [hf']; exact @decide_eq_false _ (Classical.propDecidable _) this
theorem PVs.filter {h : Heap} (f : Cont → Bool) : ∀ {vs : List Value} {cs : List Cont}, PVs prog w h vs cs → PVs prog w h (vs.filter (onCont prog w h f)) (cs.filter f)
  | _, _, .nil => .nil
  | _, _, .cons p q r => by
    have ih := r.filter f
    simp only [List.filter_cons, onCont_eq p]
    split
    · exact .cons p q ih
    · exact ih
theorem PVs.reads {h : Heap} : ∀ {vs : List Value} {cs : List Cont}, PVs prog w h vs cs → ∃ as, ReadsAll h vs (cs.map Cont.data) as
  | _, _, .nil => ⟨_, .nil⟩
  | _, _, .cons p _ r => by
    obtain ⟨as, a⟩ := p.reads
    obtain ⟨bs, b⟩ := r.reads
    exact ⟨_, .cons a b⟩
theorem PVs.lay {h : Heap} : ∀ {vs : List Value} {cs : List Cont}, PVs prog w h vs cs → PyData.canLayAll0 (cs.map Cont.data) = true
  | _, _, .nil => rfl
  | _, _, .cons _ q r => by simp only [List.map_cons, PyData.canLayAll0, canLay_data q, r.lay, Bool.and_self]
theorem eqvAll_nil (ds : List PyData) : PyData.eqvAll ds [] = ds.isEmpty := by cases ds <;> simp [PyData.eqvAll]
end

section
variable {M : Model} {A : Around} {E : Value → Shared → Prop} {s : Shared} {env : Env}
theorem list_nil {p : Pos} {Q : Value → Shared → Prop} (h : Q (.ref s.heap.objs.size) { s with heap := s.heap.push { cls := .type "list", data := .seq #[] } }) : wpAny M A (eval (.List [] p) env) Q E s := by
  have he : eval (.List [] p) env = (do standAt p; newList (← spliced (backTo p (starEach [] env)))) := rfl
  rw [he]
  refine wpAny_bind (wpAny_standAt (wpAny_bind (Calls.spliced_nil ?_)))
  unfold newList
  exact wpAny_newObj_type h
theorem one_test {c : Expr} {cenv : Env} {Q : Bool → Shared → Prop} (h : wpAny M A (isTrue c cenv (eval c cenv)) Q E s) :
    wpAny M A (forIn [c] true fun c r => if r = true then do let ok ← isTrue c cenv (eval c cenv); pure (ForInStep.yield ok) else pure (ForInStep.yield r)) Q E s := by
  simp only [List.forIn_cons, List.forIn_nil, if_true]
  refine wpAny_bind (wpAny_bind (wpAny_mono h (fun b s' z => wpAny_pure ?_) fun _ _ z => z))
  exact wpAny_pure z
end

/-- [] == [..those that differ from the first..] -/
def eqB : List Cont → Bool
  | [] => true
  | c :: r => r.all fun d => decide (c = d)
theorem allEq_eqB {cs : List Cont} (h : cs ≠ []) : allEq cs = eqB cs := by
  cases cs with
  | nil => exact absurd rfl h
  | cons c r => rfl

section
variable {prog : Program} {w : World} {A : Around} {E : Value → Shared → Prop} {s : Shared} {env : Env} {m mg mb : Str → Option Value} {base : Heap} {scope : Scope} {cl : List (Str × Addr)} {vs : List Value} {cs : List Cont}

/-- [thing for thing in things if ..] as a list, in the heap -/
theorem comp_some {tx th : Str} {test : Expr} {p1 p2 p3 pos : Pos} {ct lt : Addr} {Q : Value → Shared → Prop} (f : Cont → Bool)
    (hh : A.handled = none) (V : LawEnv env) (B : Blk env scope cl tx) (htk : env.kindOf th = some .cell) (htd : (th == ("__debug__" : Str)) = false) (htc : env.cells.lookup th = some ct) (hct : s.heap.IsCell ct (some (.ref lt))) (hlt : s.heap.IsList lt vs.toArray)
    (hp : PVs prog w s.heap vs cs) (h4 : cs.length ≤ 4) (hs : ∀ x, foldedSetIterable (.Name th p3) env x = pure x)
    (ht : ∀ C v c s₃ m₃ E', v ∈ vs → PV prog w s₃.heap v c → c.ok = true → s₃.heap.Ns C m₃ → m₃ tx = some v → (∀ b o, s.heap.get? b = some o → s₃.heap.get? b = some o) →
      wpAny (model prog w) A (isTrue test (compEnvC scope cl C env) (eval test (compEnvC scope cl C env))) (fun b s₄ => b = f c ∧ Keeps s₃ s₄) E' s₃)
    (hQ : ∀ D h' tk (ys : List Value), h'.PlainList D ys.toArray → PVs prog w h' ys (cs.filter f) → (∀ b o, s.heap.get? b = some o → h'.get? b = some o) → Q (.ref D) { s with heap := h', toks := tk }) :
    wpAny (model prog w) A (eval (.ListComp (.Name tx p1) [⟨.Name tx p2, .Name th p3, [test], 0⟩] scope pos) env) Q E s := by
  have hl4 : vs.length ≤ 4 := by rw [hp.length]; exact h4
  refine comp_list (onCont prog w s.heap f) (fun v y => y = v) hh B.clos B.cell B.kind B.names B.loc0 hlt (by rw [List.size_toArray, sizeLine_eq]; omega) (fun Q' hq => nm_cell V.k htk htd htc hct hq) (fun C i v s₃ m₃ E' hv hn hm k => ?_) (fun C i v s₃ m₃ E' hv _ hn hm k => ?_) hs fun D h' tk ys hD hpl hP k => ?_
  · have hmem : v ∈ vs := by rw [List.getElem?_toArray] at hv; exact List.mem_of_getElem? hv
    obtain ⟨c, _, pv, ok⟩ := hp.mem hmem
    refine one_test ?_
    rw [onCont_eq pv]
    exact ht C v c s₃ m₃ E' hmem (pv.keeps k) ok hn hm k
  · exact nm_local (env := compEnvC scope cl C env) B.kind (B.loc C) B.xd hn hm ⟨rfl, s₃.heap, s₃.toks, rfl, fun _ _ e => e⟩
  · have e : ∀ {as bs : List Value}, Paired (fun v y => y = v) as bs → bs = as := by
      intro as bs h
      induction h with
      | nil => rfl
      | cons a b ih => rw [a, ih]
    have ey : ys.toList = vs.filter (onCont prog w s.heap f) := e hP
    have hy : ys = (vs.filter (onCont prog w s.heap f)).toArray := by rw [← ey]
    subst hy
    exact hQ D h' tk _ hpl ((hp.filter f).map fun v c y => y.keeps k) k

theorem eq_nil {D D2 : Addr} {h' : Heap} {ys : List Value} {ds : List Cont} {tk : Nat} {Q : Value → Shared → Prop} (hu : A.units + 8 < cLine) (hD : h'.PlainList D ys.toArray) (hp : PVs prog w h' ys ds) (h2 : h'.get? D2 = some { cls := .type "list", data := .seq #[] })
    (h : Q (.bool ds.isEmpty) { s with heap := h', toks := tk }) : wpAny (model prog w) A (compareOp .Eq (.ref D) (.ref D2)) Q E { s with heap := h', toks := tk } := by
  obtain ⟨n, q⟩ := hD
  obtain ⟨as, ra⟩ := hp.reads
  refine PySem.SeqAt.compareEq_reads (s := { s with heap := h', toks := tk }) (da := .list (ds.map Cont.data)) (db := .list []) (.list q rfl rfl (by simpa using ra)) (.list h2 rfl rfl .nil) hp.lay rfl ?_ ?_
  · have : (PyData.list []).depth ≤ 1 := by decide
    omega
  · have e : PyData.eqv (.list (ds.map Cont.data)) (.list []) = ds.isEmpty := by
      rw [PyData.eqv, eqvAll_nil]; cases ds <;> rfl
    rw [e]; exact h
theorem ne_nil {D D2 : Addr} {h' : Heap} {ys : List Value} {ds : List Cont} {tk : Nat} {Q : Value → Shared → Prop} (hu : A.units + 8 < cLine) (hD : h'.PlainList D ys.toArray) (hp : PVs prog w h' ys ds) (h2 : h'.get? D2 = some { cls := .type "list", data := .seq #[] })
    (h : Q (.bool (!ds.isEmpty)) { s with heap := h', toks := tk }) : wpAny (model prog w) A (compareOp .NotEq (.ref D) (.ref D2)) Q E { s with heap := h', toks := tk } := by
  obtain ⟨n, q⟩ := hD
  obtain ⟨as, ra⟩ := hp.reads
  refine PySem.SeqAt.compareNe_reads (s := { s with heap := h', toks := tk }) (da := .list (ds.map Cont.data)) (db := .list []) (.list q rfl rfl (by simpa using ra)) (.list h2 rfl rfl .nil) hp.lay rfl ?_ ?_
  · have : (PyData.list []).depth ≤ 1 := by decide
    omega
  · have e : PyData.eqv (.list (ds.map Cont.data)) (.list []) = ds.isEmpty := by
      rw [PyData.eqv, eqvAll_nil]; cases ds <;> rfl
    rw [e]; exact h
end
end Mine

namespace Mine
theorem filter_empty {α : Type} (f : α → Bool) : ∀ l : List α, (l.filter f).isEmpty = l.all fun x => !f x
  | [] => rfl
  | x :: r => by
    have ih := filter_empty f r
    rw [List.filter_cons, List.all_cons]
    cases h : f x with
    | true => simp
    | false => simpa using ih

def differs (cs : List Cont) (c : Cont) : Bool := match cs.head? with
  | some d => !decide (c = d)
  | none => true
theorem differs_eqB (cs : List Cont) : (cs.filter (differs cs)).isEmpty = eqB cs := by
  rw [filter_empty]
  cases cs with
  | nil => rfl
  | cons c r =>
    simp only [differs, List.head?_cons, Bool.not_not, List.all_cons, eqB, decide_true, Bool.true_and]
    congr 1
    funext d
    by_cases h : d = c
    · simp [h]
    · have h' : ¬ c = d := fun e => h e.symm
      simp [h, h']
theorem emptied (cs : List Cont) : (cs.filter fun c => decide (c.len = 0)).isEmpty = allFull cs := by
  rw [filter_empty]
  unfold allFull
  congr 1
  funext c
  by_cases h : c.len = 0 <;> simp [h]

section
variable {prog : Program} {w : World} {A : Around} {E : Value → Shared → Prop} {s : Shared} {env : Env} {m mg mb : Str → Option Value} {base : Heap} {scope : Scope} {cl : List (Str × Addr)} {vs : List Value} {cs : List Cont}

theorem equal_rule {tx th : Str} {p1 p2 p3 p4 p5 p6 p7 p8 p9 q1 pos : Pos} {k0 : Nat} {ct lt : Addr} {Q : Value → Shared → Prop}
    (hu : A.units + 8 < cLine) (hh : A.handled = none) (V : LawEnv env) (B : Blk env scope cl tx) (htk : env.kindOf th = some .cell) (htd : (th == ("__debug__" : Str)) = false) (htc : env.cells.lookup th = some ct) (hct : s.heap.IsCell ct (some (.ref lt))) (hlt : s.heap.IsList lt vs.toArray)
    (htk' : ∀ C, (compEnvC scope cl C env).kindOf th = some .cell) (htc' : cl.lookup th = some ct)
    (hp : PVs prog w s.heap vs cs) (h4 : cs.length ≤ 4) (hs : ∀ x, foldedSetIterable (.Name th p3) env x = pure x)
    (hsub : ∀ o i, subscripted (.Constant (.int 0) k0 p6) false o i = operate [o, i] (getItem o i)) (hgo : ∀ o r, letTemporaryGo (.Name th p5) o r = pure ())
    (hQ : ∀ h' tk, (∀ b o, s.heap.get? b = some o → h'.get? b = some o) → Q (.bool (eqB cs)) { s with heap := h', toks := tk }) :
    wpAny (model prog w) A (eval (.Compare (.ListComp (.Name tx p1) [⟨.Name tx p2, .Name th p3, [.Compare (.Name tx p4) [.NotEq] [.Subscript (.Name th p5) (.Constant (.int 0) k0 p6) p7] p8], 0⟩] scope pos) [.Eq] [.List [] p9] q1) env) Q E s := by
  refine wpAny_Compare1 (comp_some (differs cs) hh V B htk htd htc hct hlt hp h4 hs (fun C v c s₃ m₃ E' hm pv ok hn hm' k => ?_) fun D h' tk ys hpl hp' k => ?_) (hm := by rfl)
  · have hp₃ : PVs prog w s₃.heap vs cs := hp.map fun v c y => y.keeps k
    have hpos : 0 < cs.length := by rw [← hp.length]; exact List.length_pos_of_mem hm
    obtain ⟨v0, hv0, pv0, ok0⟩ := hp₃.at 0 hpos
    have l₃ : s₃.heap.IsList lt vs.toArray := by obtain ⟨o, q, r⟩ := hlt; exact ⟨o, k _ _ q, r⟩
    refine wpAny_isTrue_Compare1 (nm_local (env := compEnvC scope cl C env) B.kind (B.loc C) B.xd hn hm' ?_) (hm := by rfl)
    refine Mine.item_list (its := vs.toArray) (k := 0) (v := v0) hsub hgo (nm_cell (env := compEnvC scope cl C env) B.kind (htk' C) htd htc' (hct.keeps k) ⟨rfl, wpAny_Constant_int ⟨⟨_, rfl⟩, l₃, Int.le_refl _, by decide, by simpa using hv0, ?_⟩⟩)
    refine pv_ne (s := { s₃ with toks := _ }) pv pv0 ok ok0 hu (wpAny_truthy_bool ⟨?_, s₃.heap, _, rfl, fun _ _ e => e⟩)
    have : cs.head? = some cs[0] := by
      cases cs with
      | nil => simp at hpos
      | cons a r => rfl
    unfold differs
    rw [this]
  · refine list_nil ?_
    refine eq_nil (s := s) hu (h' := h'.push _) ?_ (hp'.map fun v c y => y.keeps fun b o e => Heap.get?_push_of_some _ e) (Heap.get?_push_size _ rfl) ?_
    · obtain ⟨n, q⟩ := hpl; exact ⟨n, Heap.get?_push_of_some _ q⟩
    · rw [differs_eqB]
      exact hQ _ _ fun b o e => Heap.get?_push_of_some _ (k b o e)

theorem empty_rule {tx th : Str} {p1 p2 p3 p4 p5 p6 p7 p8 p9 q1 pos : Pos} {k0 : Nat} {ct lt : Addr} {Q : Value → Shared → Prop} (T : Names base mg mb) (hst : base.StaysIn s.heap)
    (hu : A.units + 8 < cLine) (hh : A.handled = none) (V : LawEnv env) (B : Blk env scope cl tx) (htk : env.kindOf th = some .cell) (htd : (th == ("__debug__" : Str)) = false) (htc : env.cells.lookup th = some ct) (hct : s.heap.IsCell ct (some (.ref lt))) (hlt : s.heap.IsList lt vs.toArray)
    (hlen : mg "len" = none) (hlk : ∀ C, (compEnvC scope cl C env).kindOf "len" = some .globalImplicit)
    (hp : PVs prog w s.heap vs cs) (h4 : cs.length ≤ 4) (hs : ∀ x, foldedSetIterable (.Name th p3) env x = pure x)
    (hQ : ∀ h' tk, (∀ b o, s.heap.get? b = some o → h'.get? b = some o) → Q (.bool (!allFull cs)) { s with heap := h', toks := tk }) :
    wpAny (model prog w) A (eval (.Compare (.ListComp (.Name tx p1) [⟨.Name tx p2, .Name th p3, [.Compare (.Call (.Name "len" p4) [.Name tx p5] [] p6) [.Eq] [.Constant (.int 0) k0 p7] p8], 0⟩] scope pos) [.NotEq] [.List [] p9] q1) env) Q E s := by
  refine wpAny_Compare1 (comp_some (fun c => decide (c.len = 0)) hh V B htk htd htc hct hlt hp h4 hs (fun C v c s₃ m₃ E' hm pv ok hn hm' k => ?_) fun D h' tk ys hpl hp' k => ?_) (hm := by rfl)
  · refine wpAny_isTrue_Compare1 ?_ (hm := by rfl)
    refine Call_ (name_built T (fun b o e => k b o (hst b o e)) hlen PyProof.Rows.bootS_len (by decide) V.g V.b B.kind (hlk C) (by decide) ?_)
    refine callWith_builtin1 (he := rfl) (hplain := rfl) (args_cons (he := rfl) (nm_local (env := compEnvC scope cl C env) B.kind (B.loc C) B.xd hn hm' ?_))
    refine args_nil (pv_len pv ok fun t tk => ?_)
    refine wpAny_Constant_int (PyProof.Rows.eq_int (wpAny_truthy_bool ⟨?_, s₃.heap, _, rfl, fun _ _ e => e⟩))
    by_cases h0 : c.len = 0
    · simp [h0]
    · rw [decide_eq_false h0, beq_eq_false_iff_ne]; omega
  · refine list_nil ?_
    refine ne_nil (s := s) hu (h' := h'.push _) ?_ (hp'.map fun v c y => y.keeps fun b o e => Heap.get?_push_of_some _ e) (Heap.get?_push_size _ rfl) ?_
    · obtain ⟨n, q⟩ := hpl; exact ⟨n, Heap.get?_push_of_some _ q⟩
    · rw [emptied]
      exact hQ _ _ fun b o e => Heap.get?_push_of_some _ (k b o e)

theorem lens_at {h : Heap} : ∀ {vs ys : List Value} {cs : List Cont}, PVs prog w h vs cs → Paired (fun v y => ∃ c t, PV prog w h v c ∧ y = .int (c.len : Nat) t) vs ys → ys.length = cs.length ∧ ∀ (i : Nat) y, ys[i]? = some y → ∃ t, y = .int (lenAt cs i) t
  | _, _, _, .nil, .nil => ⟨rfl, fun i y e => by simp at e⟩
  | _, _, c :: cs, .cons p _ r, .cons a b => by
    obtain ⟨e1, e2⟩ := lens_at r b
    refine ⟨by simp [e1], fun i y e => ?_⟩
    cases i with
    | zero =>
      obtain ⟨d, t, pd, ey⟩ := a
      rw [List.getElem?_cons_zero] at e
      cases e
      rw [p.fn pd]
      exact ⟨t, by simpa [lenAt] using ey⟩
    | succ i =>
      rw [List.getElem?_cons_succ] at e
      obtain ⟨t, h⟩ := e2 i y e
      exact ⟨t, by simpa [lenAt] using h⟩

theorem most_rule {tx th many : Str} {p1 p2 p3 p4 p5 p6 p7 p8 p9 q1 q2 q3 pos : Pos} {k0 k1 : Nat} {ct lt : Addr} {mny : Int} {tn : Tok} {Q : Value → Shared → Prop} (T : Names base mg mb) (hst : base.StaysIn s.heap)
    (hh : A.handled = none) (V : LawEnv env) (B : Blk env scope cl tx) (htk : env.kindOf th = some .cell) (htd : (th == ("__debug__" : Str)) = false) (htc : env.cells.lookup th = some ct) (hct : s.heap.IsCell ct (some (.ref lt))) (hlt : s.heap.IsList lt vs.toArray)
    (hns : s.heap.Ns env.locals m) (hmk : env.kindOf many = some .local) (hmd : (many == ("__debug__" : Str)) = false) (hmm : m many = some (.int mny tn)) (hmny : mny = (cs.length : Int))
    (hlen : mg "len" = none) (hmax : mg "max" = none) (hlk : ∀ C, (compEnvC scope cl C env).kindOf "len" = some .globalImplicit) (hmaxk : env.kindOf "max" = some .globalImplicit)
    (hp : PVs prog w s.heap vs cs) (h4 : cs.length ≤ 4) (hs : ∀ x, foldedSetIterable (.Name th q3) env x = pure x)
    (hQ : ∀ h' tk t, (∀ b o, s.heap.get? b = some o → h'.get? b = some o) → Q (.int (mostC cs) t) { s with heap := h', toks := tk }) :
    wpAny (model prog w) A (eval (.IfExp (.Compare (.Name many p1) [.Gt] [.Constant (.int 0) k0 p2] p3)
      (.Call (.Name "max" p4) [.ListComp (.Call (.Name "len" p5) [.Name tx p6] [] p7) [⟨.Name tx p8, .Name th q3, [], 0⟩] scope pos] [] p9) (.Constant (.int 0) k1 q1) q2) env) Q E s := by
  have hl4 : vs.length ≤ 4 := by rw [hp.length]; exact h4
  subst hmny
  refine wpAny_IfExp (wpAny_isTrue_Compare1 (nm_local V.k hmk hmd hns hmm (wpAny_Constant_int (PyProof.Rows.gt_int (wpAny_truthy_bool ?_)))) (hm := by rfl))
  by_cases hn : cs = []
  · subst hn
    rw [if_neg (by simp)]
    exact wpAny_Constant_int (hQ _ _ _ fun _ _ e => e)
  · have hpos : 0 < cs.length := List.length_pos_iff.mpr hn
    rw [if_pos (by simp; omega)]
    refine Call_ (name_built (s := { s with toks := _ }) T hst hmax PyProof.Rows.boot_max (by decide) V.g V.b V.k hmaxk (by decide) ?_)
    refine callWith_builtin1 (he := rfl) (hplain := rfl) (args_cons (he := rfl) ?_)
    refine comp_list (s := { s with toks := _ }) (fun _ => true) (fun v y => ∃ c t, PV prog w s.heap v c ∧ y = .int (c.len : Nat) t) hh B.clos B.cell B.kind B.names B.loc0 hlt (by rw [List.size_toArray, sizeLine_eq]; omega) (fun Q' hq => nm_cell (s := { s with toks := _ }) V.k htk htd htc hct hq) (fun C i v s₃ m₃ E' hv hn' hm k => ?_) (fun C i v s₃ m₃ E' hv _ hn' hm k => ?_) hs fun D h' tk ys hD hpl hP k => ?_
    · exact wpAny_pure ⟨rfl, s₃.heap, s₃.toks, rfl, fun _ _ e => e⟩
    · have hmem : v ∈ vs := by rw [List.getElem?_toArray] at hv; exact List.mem_of_getElem? hv
      obtain ⟨c, _, pv, ok⟩ := hp.mem hmem
      refine Call_ (name_built T (fun b o e => k b o (hst b o e)) hlen PyProof.Rows.bootS_len (by decide) V.g V.b B.kind (hlk C) (by decide) ?_)
      refine callWith_builtin1 (he := rfl) (hplain := rfl) (args_cons (he := rfl) (nm_local (env := compEnvC scope cl C env) B.kind (B.loc C) B.xd hn' hm ?_))
      refine args_nil (pv_len (pv.keeps k) ok fun t tk => ?_)
      exact ⟨⟨c, t, pv, rfl⟩, s₃.heap, tk, rfl, fun _ _ e => e⟩
    · rw [List.filter_eq_self.mpr (fun _ _ => rfl)] at hP
      obtain ⟨e1, e2⟩ := lens_at hp hP
      have hsz : ys.size = cs.length := by rw [← e1]; simp
      refine args_nil ?_
      have hl : h'.IsList D ys := by obtain ⟨n, q⟩ := hpl; exact ⟨_, q, rfl, _, rfl⟩
      have hlt' : D < h'.objs.size := by obtain ⟨_, e, _⟩ := hl; exact Heap.lt_size e
      refine call_max_walk (wpAny_pyIter_list (s := { s with heap := h', toks := tk }) hl ?_)
      refine ⟨h'.objs.size, [h'.objs.size, D], [h'.objs.size], ys.size, _, _, _, rfl, Walks.list (A := A.in1) hh _ D (Nat.ne_of_lt hlt') ys, ⟨⟨_, Heap.get?_push_size _ rfl, rfl, rfl⟩, hl.push _⟩, ?_, by omega,
        CmpOf.ints_gt (lenAt cs) (fun i v e => e2 i v (by simpa using e)), fun v h'' tk' hPv hk => ?_⟩
      · intro b hb
        show b < (h'.push _).objs.size
        rw [Heap.size_push]
        simp only [List.mem_cons, List.not_mem_nil, or_false] at hb
        rcases hb with rfl | rfl
        · exact Nat.lt_succ_self _
        · exact Nat.lt_succ_of_lt hlt'
      · obtain ⟨t, rfl⟩ := e2 _ v (by simpa using hPv)
        rw [hsz, mostC_best cs hn]
        exact hQ h'' tk' t fun b o e => hk b o (fun hm => by rw [List.mem_singleton] at hm; subst hm; exact Nat.lt_irrefl _ (Heap.lt_size (k _ _ e))) (Heap.get?_push_of_some _ (k _ _ e))
end
end Mine

namespace Mine
section
variable {α : Type} {M : Model} {A : Around} {E : Value → Shared → Prop} {s : Shared}
theorem raise_made {cls msg : String} {Q : α → Shared → Prop} (hp : PlainExc cls) (hh : A.handled = none)
    (h : ∀ h' tk e args, Heap.MadeExc s.heap h' e cls args → E (.ref e) { s with heap := h', toks := tk }) (hm : (msg : Str).length ≤ sizeLine := by size_fits) :
    wpAny M A (raiseErrorMade cls msg : Sem α) Q E s := by
  unfold raiseErrorMade
  refine wpAny_bind (wpAny_mkStr (wpAny_bind ?_) hm)
  exact wpAny_newExc_plain hp (fun h' e x => wpAny_raiseNew_none hh (h h' _ e _ x))
end

section
variable {prog : Program} {w : World} {A : Around} {E : Value → Shared → Prop} {s : Shared} {vs : List Value}

theorem max_map_empty {m TI it D : Addr} {Q : Value → Shared → Prop} (hh : A.handled = none) (hm : IsMap s.heap m TI (.builtin "len")) (hT : IsOne s.heap TI (.ref it)) (hi : s.heap.IsTupleIter it D 0) (hD : s.heap.IsTuple D ([] : List Value).toArray)
    (hmne : m ≠ it) (hTne : TI ≠ it) (hDne : D ≠ it)
    (h : ∀ h₁ h' tk e args, (∀ b o, b ≠ it → s.heap.get? b = some o → h₁.get? b = some o) → Heap.MadeExc h₁ h' e "ValueError" args → E (.ref e) { s with heap := h', toks := tk }) :
    wpAny (model prog w) A (call (.builtin "max") [.ref m]) Q E s := by
  have W := walks_map (prog := prog) (w := w) (A := A.in1) (vs := []) (cs := []) hh hmne hTne hDne (by simp) rfl
  have st : IsMap s.heap m TI (.builtin "len") ∧ IsOne s.heap TI (.ref it) ∧ s.heap.IsTupleIter it D 0 ∧ s.heap.IsTuple D ([] : List Value).toArray ∧ PVs prog w s.heap [] [] := ⟨hm, hT, hi, hD, .nil⟩
  have hname : (toString "max" ++ toString ".loop" : String) = "max.loop" := by decide
  refine call_function_tree F.kind_max F.plain_max F.entry_max (F.args_max1 _) ?_
  show wpAny _ A.in1 (Builtin.Builtins.bindParams "max" ["key", "default"] 0 ⟨[], []⟩ >>= _) _ _ s
  refine wpAny_bind (wpAny_of_eq (show Builtin.Builtins.bindParams "max" ["key", "default"] 0 ⟨[], []⟩ = pure [none, none] from rfl) ?_)
  refine wpAny_bind (wpAny_pure ?_)
  refine wpAny_bind (W.self 0 s _ _ st ?_)
  refine wpAny_bind (wpAny_newObj_type ?_)
  rw [hname]
  have k0 : ∀ b o, s.heap.get? b = some o → (s.heap.push { cls := .type "list", data := .seq ([] : List Value).toArray }).get? b = some o := fun b o e => Heap.get?_push_of_some _ e
  refine wpAny_pure ⟨plainId_quiet F.plain_max_loop _, ?_⟩
  refine codeAny_builtin F.entry_max_loop ?_
  rw [Around.under_plainId F.plain_max_loop _]
  show wpAny _ A.in1 (seqItems? (.ref s.heap.objs.size) >>= _) _ _ _
  refine wpAny_bind (wpAny_seqItems (Heap.get?_push_size _ rfl) rfl ?_)
  show wpAny _ A.in1 (tryCatch (pyNext (.ref m)) _ >>= _) _ _ _
  refine wpAny_bind (wpAny_tryCatch (W.done _ _ _ (W.frame 0 _ _ st fun b _ o e => k0 b o e) fun h₁ tk₁ hk => ?_))
  refine wpAny_bind (wpAny_rule ?_)
  exact raise_made plainExc_ValueError hh fun h' tk e args x => h h₁ h' tk e args (fun b o hb q => hk b o (by simpa using hb) (k0 b o q)) x
end
end Mine

namespace Mine
/-- of nothing handed in, a function raises a ValueError -/
def Raises (prog : Program) (w : World) (base : Heap) (u d : Nat) (f : Addr) (first : List Value) : Prop :=
  ∀ (A : Around) (s : Shared) (envs : List Env) (R : Result → Shared → Prop), FS A envs base s.heap → A.depth + d < recursionLimit → A.units + u < cLine → A.handled = none →
    (∀ h' tk e t args, Heap.FlyingW base envs e (.type "ValueError") (.ref t) h' → h'.TupAt t args → base.get? t = none → s.heap.UpToSlots h' → R (.error (.ref e)) { s with heap := h', toks := tk }) →
    codeAny (model prog w) A (.call (.ref f) ⟨first, []⟩) R s

section
variable {prog : Program} {w : World} {base : Heap} {mg mb : Str → Option Value}

theorem max_raises {name qual : Str} {scope : Scope} {doc pm cdv ct : Value} {an : Option Addr} {o : Obj} {f : Addr} {xe : Arg} {p1 p2 p3 p4 p5 p6 p7 : Pos}
    (T : Names base mg mb) (hlim : base.NoLimit) (ho : base.get? f = some o)
    (hd : o.data = .func (fnOf name qual (restParams [] xe) [.Return (some (.Call (.Name "max" p1) [.Call (.Name "map" p2) [.Name "len" p3, .Name xe.arg p4] [] p5] [] p6)) p7] scope .none .none doc pm an cdv ct))
    (hcd : base.CodeRec cdv qual) (hco : scope.isCoroutine = false) (hgen : scope.isGenerator = false) (hk : scope.kind = .function) (hcell : ∀ x ∈ scope.names, x.2 ≠ .cell)
    (hmax : mg "max" = none) (hmap : mg "map" = none) (hlen : mg "len" = none)
    (hmaxk : scope.names.lookup ("max" : Str) = some .globalImplicit) (hmapk : scope.names.lookup ("map" : Str) = some .globalImplicit) (hlenk : scope.names.lookup ("len" : Str) = some .globalImplicit)
    (hxk : scope.names.lookup xe.arg = some .local) (hxd : (xe.arg == ("__debug__" : Str)) = false) :
    Raises prog w base 70 0 f [] := by
  intro A s envs R S hroom hu hh k
  refine enter_rest (vs := []) (binds := fun D => [(xe.arg, .ref D)]) S ho hd hcd hlim (by omega) (bind_rest0 (vs := []) (by simp)) (fun _ => rfl) (fun D y hy => ?_) (fun D L' h₁ tk st₁ ff₁ k₁ hD hDL hDn hLn hn => ?_) hco hgen hk hcell
  · rw [List.mem_singleton] at hy; subst hy; exact hxk
  · have hfr : (A.deeper (envOf qual scope L' f cdv)).frames = some (envOf qual scope L' f cdv :: envs) := by show A.frames.map (envOf qual scope L' f cdv :: ·) = _; rw [S.fr]; rfl
    have hmx : ([(xe.arg, .ref D)] : List (Str × Value)).reverse.lookup xe.arg = some (.ref D) := by simp
    have tD : h₁.IsTuple D ([] : List Value).toArray := ⟨_, hD, rfl, _, rfl⟩
    refine wpAny_execs_cons (wpAny_Return_some ?_)
    refine Call_ (name_built (s := { s with heap := h₁, toks := tk }) (env := envOf qual scope L' f cdv) T st₁ hmax PyProof.Rows.boot_max (by decide) rfl rfl hk hmaxk (by decide) ?_)
    refine callWith_builtin1 (he := rfl) (hplain := rfl) (args_cons (he := rfl) ?_)
    refine Call_ (name_built (s := { s with heap := h₁, toks := tk }) (env := envOf qual scope L' f cdv) T st₁ hmap PyProof.Rows.boot_map (by decide) rfl rfl hk hmapk (by decide) ?_)
    refine callWith_type1 (he := rfl) (hplain := rfl) (args_cons (he := rfl) (name_built (s := { s with heap := h₁, toks := tk }) (env := envOf qual scope L' f cdv) T st₁ hlen PyProof.Rows.bootS_len (by decide) rfl rfl hk hlenk (by decide) ?_))
    refine args_cons (he := rfl) (wpAny_Name (wpAny_loadName_local (s := { s with heap := h₁, toks := tk }) (env := envOf qual scope L' f cdv) hk hxk hn hmx ?_) hxd)
    refine args_nil ?_
    refine call_map_tuple (s := { s with heap := h₁, toks := tk }) tD fun h₂ mp TI it e1 e2 e3 _ q1 q2 q3 k₂ => ?_
    refine args_nil ?_
    have hDlt : @LT.lt Nat _ D h₁.objs.size := Heap.lt_size hD
    have e1' : @Eq Nat mp (h₁.objs.size + 2) := e1
    have e2' : @Eq Nat TI (h₁.objs.size + 1) := e2
    have e3' : @Eq Nat it h₁.objs.size := e3
    have hit : h₁.get? it = none := Heap.get?_none_of_le (by rw [e3]; exact Nat.le_refl _)
    refine max_map_empty (s := { s with heap := h₂, toks := tk }) hh q1 q2 q3 (by obtain ⟨o, q, r⟩ := tD; exact ⟨o, k₂ _ _ q, r⟩) (by show @Ne Nat _ _; omega) (by show @Ne Nat _ _; omega) (by show @Ne Nat _ _; omega) fun h₃ h₄ tk' e args k₃ x => ?_
    have up₃ : ∀ b o, h₁.get? b = some o → h₃.get? b = some o := fun b o q => k₃ b o (fun e => by subst e; rw [hit] at q; cases q) (k₂ b o q)
    refine wpAny_leaves_madeW (s := { s with heap := h₄, toks := tk' }) (base := base) hfr rfl (fun b o q => up₃ b o (st₁ b o q)) (ff₁.of_keeps fun b o q _ => ⟨o, up₃ b o q, rfl⟩) x.of fun h₅ t fl tup tn up => ?_
    exact k h₅ tk' e t args fl tup tn ((Heap.UpToSlots.of_keeps fun b o q => x.keeps b o (up₃ b o (k₁ b o q))).trans up)

variable {K : Frag} {x C : Addr} {ox : Obj} {od : Option Obj}
theorem quick_raises {name qual : Str} {scope : Scope} {doc pm cdv ct : Value} {an : Option Addr} {o : Obj} {f fm qm : Addr} {rm : List Value} {sp : Pos} {xe : Arg} {rest : List Stmt}
    {p1 p2 p3 p4 m1 m2 m3 m4 m5 : Pos} (hlim : base.NoLimit) (V : Recv K base x C ox od) (ho : base.get? f = some o)
    (hd : o.data = .func (fnOf name qual (restParams [⟨"self", none, sp⟩] xe) (.If (.UnaryOp .Not (.Name xe.arg p1) p2) [.Return (some (.Call (.Attribute (.Name "self" m1) "maximum" m2) [.Starred (.Name xe.arg m3) m4] [] m5)) p3] [] p4 :: rest) scope .none .none doc pm an cdv ct))
    (hcd : base.CodeRec cdv qual) (hco : scope.isCoroutine = false) (hgen : scope.isGenerator = false) (hk : scope.kind = .function) (hcell : ∀ x ∈ scope.names, x.2 ≠ .cell)
    (hsk : scope.names.lookup ("self" : Str) = some .local) (hxk : scope.names.lookup xe.arg = some .local) (hxd : (xe.arg == ("__debug__" : Str)) = false) (hxs : xe.arg ≠ ("self" : Str))
    (SM : Static K C od "maximum" qm fm rm) (am : Raises prog w base 70 0 fm []) : Raises prog w base 80 1 f [.ref x] := by
  intro A s envs R S hroom hu hh k
  refine enter_rest (vs := []) (binds := fun D => [(("self" : Str), .ref x), (xe.arg, .ref D)]) S ho hd hcd hlim (by omega) (bind_rest1 (vs := []) (by simp)) (fun _ => rfl) (fun D y hy => ?_) (fun D L' h₁ tk st₁ ff₁ k₁ hD hDL hDn hLn hn => ?_) hco hgen hk hcell
  · simp only [List.mem_cons, List.not_mem_nil, or_false] at hy
    rcases hy with rfl | rfl
    · exact hsk
    · exact hxk
  · have hfr : (A.deeper (envOf qual scope L' f cdv)).frames = some (envOf qual scope L' f cdv :: envs) := by show A.frames.map (envOf qual scope L' f cdv :: ·) = _; rw [S.fr]; rfl
    have tD : h₁.IsTuple D ([] : List Value).toArray := ⟨_, hD, rfl, _, rfl⟩
    have hmx : ([(("self" : Str), (.ref x : Value)), (xe.arg, .ref D)] : List (Str × Value)).reverse.lookup xe.arg = some (.ref D) := by simp
    have hms : ([(("self" : Str), (.ref x : Value)), (xe.arg, .ref D)] : List (Str × Value)).reverse.lookup ("self" : Str) = some (.ref x) := by
      have : (("self" : Str) == xe.arg) = false := by rw [beq_eq_false_iff_ne]; exact fun e => hxs e.symm
      simp [List.lookup, this]
    refine wpAny_execs_cons (wpAny_If (wpAny_isTrue_Not (wpAny_isTrue_value (he := rfl) (wpAny_Name (wpAny_loadName_local (s := { s with heap := h₁, toks := tk }) (env := envOf qual scope L' f cdv) hk hxk hn hmx ?_) hxd))))
    refine truthy_tuple (s := { s with heap := h₁, toks := tk }) tD (by simp) ?_
    simp only [List.isEmpty_toArray, List.isEmpty_nil, Bool.not_true, Bool.not_false, if_true]
    refine wpAny_execs_cons (wpAny_Return_some ?_)
    refine star_static (s := { s with heap := h₁, toks := _ }) (x := x) (D := D) (K := K) (fun Q' hq => wpAny_Name (wpAny_loadName_local (s := { s with heap := h₁, toks := _ }) (env := envOf qual scope L' f cdv) hk hsk hn hms hq) (by decide)) (fun s₁ Q' e hq => wpAny_Name (wpAny_loadName_local (s := s₁) (env := envOf qual scope L' f cdv) hk hxk (by rw [e]; exact hn) hmx hq) hxd)
      (V.k.keeps st₁) (Mine.InstAt.keeps V.i st₁) SM.g SM.fo SM.p SM.keep hD rfl rfl (.inr rfl) (by simp) fun h₂ tk₂ k₂ => ?_
    refine am (A.deeper (envOf qual scope L' f cdv)) { s with heap := h₂, toks := tk₂ } (envOf qual scope L' f cdv :: envs) _ ⟨hfr, ff₁.of_keeps fun b o q _ => ⟨o, k₂ b o q, rfl⟩, fun b o q => k₂ b o (st₁ b o q)⟩ (by show A.depth + 1 + 0 < _; omega) (by show A.units + 3 + 70 < cLine; omega) hh fun h₃ tk₃ e t args fl tup tn up => ?_
    refine wpAny_leaves_onW (s := { s with heap := h₃, toks := tk₃ }) hfr rfl fl fun h₄ fl' up' => ?_
    exact k h₄ tk₃ e t args fl' (tup.of_slots up') tn (((Heap.UpToSlots.of_keeps fun b o q => k₂ b o (k₁ b o q)).trans up).trans up')
end
end Mine

namespace Mine
/-- what the law's frame knows of the functions -/
structure LawKit (prog : Program) (w : World) (h₀ : Heap) : Prop where
  ident : ∀ base, h₀.StaysIn base → Answers prog w base 70 0 157 [] (fun _ => True) (fun cs v => v = .bool (allEq cs))
  lev : ∀ base x ox es n, h₀.StaysIn base → InstAt base x ox 317 (some (dictOf es n)) → getL "_ident" es = some none → getL "maximum" es = some none →
    Answers prog w base 80 1 150 [.ref x] (fun _ => True) (fun cs v => IsRes (quickB cs) v)
  jac : ∀ base x ox es n, h₀.StaysIn base → InstAt base x ox 351 (some (dictOf es n)) → getL "_ident" es = some none → getL "maximum" es = some none →
    Answers prog w base 80 1 233 [.ref x] (fun _ => True) (fun cs v => IsRes (quickS (fun _ => 1) cs) v)
  lcs : ∀ base x ox es n, h₀.StaysIn base → InstAt base x ox 276 (some (dictOf es n)) → getL "_ident" es = some none → getL "maximum" es = some none →
    Answers prog w base 80 1 233 [.ref x] (· ≠ []) (fun cs v => IsRes (quickS mostC cs) v)
  lcs0 : ∀ base x ox es n, h₀.StaysIn base → InstAt base x ox 276 (some (dictOf es n)) → getL "_ident" es = some none → getL "maximum" es = some none →
    Raises prog w base 80 1 233 [.ref x]

section
variable {A : Around} {env : Env} {h₀ h : Heap} {L : Addr} {m : Str → Option Value} {news : List (Addr × Obj)}
theorem law_base (F : Fr h₀ L h m) (N : News h₀ L h news) (hA : A.frames = some [env]) (hL : env.frame = some L) (hk : env.scope.kind ≠ .module) :
    FS A [env] (TI.gone h [L]) h ∧ h₀.StaysIn (TI.gone h [L]) ∧ News h₀ L (TI.gone h [L]) news ∧ ∀ h', FK ([env].filterMap (·.frame)) h h' → Fr h₀ L h' m ∧ News h₀ L h' news := by
  have hLn : h₀.get? L = none := Heap.get?_none_of_le F.above
  have ne : ∀ b o, h₀.get? b = some o → b ∉ [L] := fun b o e hm => by rw [List.mem_singleton] at hm; subst hm; rw [hLn] at e; cases e
  obtain ⟨oL, es, ep, hoL, hdL, r⟩ := F.ns
  have hfl : [env].filterMap (·.frame) = [L] := by rw [List.filterMap_cons_some hL]; rfl
  refine ⟨⟨hA, ⟨hk, ⟨L, oL, hL, TI.gone_none (.head _), hoL, fun vs q => by rw [hdL] at q; cases q⟩, trivial⟩, fun b o e => (TI.gone_some e).2⟩, fun b o e => (TI.gone_get (ne b o e)).trans (F.keep b o e), fun p hp => ?_, fun h' k => ?_⟩
  · obtain ⟨a, b, c⟩ := N p hp
    exact ⟨(TI.gone_get (by simpa using b)).trans a, b, c⟩
  · rw [hfl] at k
    refine ⟨⟨k.ns F.ns, fun b o e => k.1 b o (ne b o e) (F.keep b o e), F.above⟩, fun p hp => ?_⟩
    obtain ⟨a, b, c⟩ := N p hp
    exact ⟨k.1 _ _ (by simpa using b) a, b, c⟩
end

/-- the things of the law, wherever their objects stand -/
def Made (prog : Program) (w : World) (objs : List (Addr × Obj)) (vs : List Value) (cs : List Cont) : Prop := ∀ h : Heap, (∀ p ∈ objs, h.get? p.1 = some p.2) → PVs prog w h vs cs

section
variable {prog : Program} {w : World} {A : Around} {E : Value → Shared → Prop} {s : Shared} {env : Env} {h₀ : Heap} {L : Addr} {m : Str → Option Value} {news objs : List (Addr × Obj)} {K : Frag} {vs : List Value} {cs : List Cont}
  {u d : Nat} {f x C : Addr} {ok : List Cont → Prop} {res : List Cont → Value → Prop}

theorem law_callF {pos p p2 : Pos} {th : Str} {ct lt : Addr} {oc : Obj} {n : Nat} {Q : Value → Shared → Prop} (F : Fr h₀ L s.heap m) (N : News h₀ L s.heap news) (X : K.In h₀) (hA : A.frames = some [env]) (hL : env.frame = some L) (V : LawEnv env)
    (hd : A.depth + d < recursionLimit) (hu : A.units + u < cLine) (hh : A.handled = none) (hkeep : keepIn K (.ref f) = true)
    (ans : ∀ base, h₀.StaysIn base → Answers prog w base u d f [] ok res)
    (hthk : env.kindOf th = some .cell) (hthd : (th == ("__debug__" : Str)) = false) (hthc : env.cells.lookup th = some ct) (hct : (ct, oc) ∈ news) (hoc : oc.data = .cell (some (.ref lt))) (hlt : (lt, W.listOf vs.toArray n) ∈ news)
    (hobj : ∀ p ∈ objs, p ∈ news) (hP : Made prog w objs vs cs) (h4 : cs.length ≤ 4) (hok : ok cs)
    (hQ : ∀ h' tk v, res cs v → Fr h₀ L h' m → News h₀ L h' news → Q v { s with heap := h', toks := tk }) :
    wpAny (model prog w) A (callWith pos (.ref f) [] (backTo pos (starEach [.Starred (.Name th p2) p] env)) []) Q E s := by
  have hp := hP s.heap fun p hp => (N p (hobj p hp)).1
  have hsz : vs.toArray.size ≤ sizeLine := by rw [List.size_toArray, hp.length, sizeLine_eq]; omega
  refine callWith_star (P := K.In) (keeps_K hkeep) (nm_cell V.k hthk hthd hthc ⟨oc, (N _ hct).1, hoc⟩ ?_)
  refine star_any (N _ hlt).1 rfl rfl (.inl rfl) hsz fun h₁ k => ⟨X.keeps fun b o e => k _ _ (F.keep b o e), wpAny_call ?_⟩
  have F₁ := F.keeps k
  have N₁ := N.grown k
  obtain ⟨fs, st, nb, back⟩ := law_base F₁ N₁ hA hL (by rw [V.k]; decide)
  refine ans (TI.gone h₁ [L]) st A { s with heap := h₁ } [env] _ _ cs fs hd hu hh (hP _ fun p hp => (nb p (hobj p hp)).1) h4 hok fun v h' tk r kk => ?_
  obtain ⟨F₂, N₂⟩ := back h' kk
  exact hQ h' tk v r F₂ N₂

theorem law_callM {pos p p2 : Pos} {th : Str} {ct lt q : Addr} {oc : Obj} {n : Nat} {Q : Value → Shared → Prop} (F : Fr h₀ L s.heap m) (N : News h₀ L s.heap news) (X : K.In h₀) (hA : A.frames = some [env]) (hL : env.frame = some L) (V : LawEnv env)
    (hd : A.depth + d < recursionLimit) (hu : A.units + u < cLine) (hh : A.handled = none) (hkeep : fnIn K f = true) (hq : (q, methodObj (.ref f) (.ref x)) ∈ news)
    (ans : ∀ base, h₀.StaysIn base → News h₀ L base news → Answers prog w base u d f [.ref x] ok res)
    (hthk : env.kindOf th = some .cell) (hthd : (th == ("__debug__" : Str)) = false) (hthc : env.cells.lookup th = some ct) (hct : (ct, oc) ∈ news) (hoc : oc.data = .cell (some (.ref lt))) (hlt : (lt, W.listOf vs.toArray n) ∈ news)
    (hobj : ∀ p ∈ objs, p ∈ news) (hP : Made prog w objs vs cs) (h4 : cs.length ≤ 4) (hok : ok cs)
    (hQ : ∀ h' tk v, res cs v → Fr h₀ L h' m → News h₀ L h' news → Q v { s with heap := h', toks := tk }) :
    wpAny (model prog w) A (callWith pos (.ref q) [] (backTo pos (starEach [.Starred (.Name th p2) p] env)) []) Q E s := by
  have hp := hP s.heap fun p hp => (N p (hobj p hp)).1
  have hsz : vs.toArray.size ≤ sizeLine := by rw [List.size_toArray, hp.length, sizeLine_eq]; omega
  refine callWith_star (P := MethP K q f (.ref x)) (keeps_M hkeep) (nm_cell V.k hthk hthd hthc ⟨oc, (N _ hct).1, hoc⟩ ?_)
  refine star_any (N _ hlt).1 rfl rfl (.inl rfl) hsz fun h₁ k => ?_
  have F₁ := F.keeps k
  have N₁ := N.grown k
  refine ⟨⟨(N₁ _ hq).1, X.keeps F₁.keep⟩, wpAny_call (ks_codeAny_call_bound (N₁ _ hq).1 ?_)⟩
  obtain ⟨fs, st, nb, back⟩ := law_base F₁ N₁ hA hL (by rw [V.k]; decide)
  refine ans (TI.gone h₁ [L]) st nb A { s with heap := h₁ } [env] _ _ cs fs hd hu hh (hP _ fun p hp => (nb p (hobj p hp)).1) h4 hok fun v h' tk r kk => ?_
  obtain ⟨F₂, N₂⟩ := back h' kk
  exact hQ h' tk v r F₂ N₂

theorem law_ident {b : Bool} {pos p p2 : Pos} {th : Str} {ct lt : Addr} {oc : Obj} {n : Nat} {Q : Value → Shared → Prop} (F : Fr h₀ L s.heap m) (N : News h₀ L s.heap news) (X : K.In h₀) (LK : LawKit prog w h₀) (hA : A.frames = some [env]) (hL : env.frame = some L) (V : LawEnv env)
    (hd : A.depth + 0 < recursionLimit) (hu : A.units + 70 < cLine) (hh : A.handled = none) (hkeep : keepIn K (.ref 157) = true)
    (hthk : env.kindOf th = some .cell) (hthd : (th == ("__debug__" : Str)) = false) (hthc : env.cells.lookup th = some ct) (hct : (ct, oc) ∈ news) (hoc : oc.data = .cell (some (.ref lt))) (hlt : (lt, W.listOf vs.toArray n) ∈ news)
    (hP : Made prog w objs vs cs) (hobj : ∀ p ∈ objs, p ∈ news) (h4 : cs.length ≤ 4) (hb : allEq cs = b)
    (hQ : ∀ h' tk, Fr h₀ L h' m → News h₀ L h' news → Q (.bool b) { s with heap := h', toks := tk }) :
    wpAny (model prog w) A (callWith pos (.ref 157) [] (backTo pos (starEach [.Starred (.Name th p2) p] env)) []) Q E s :=
  law_callF F N X hA hL V hd hu hh hkeep LK.ident hthk hthd hthc hct hoc hlt hobj hP h4 trivial fun h' tk v r F' N' => by
    subst r; subst hb; exact hQ h' tk F' N'

/-- a quick answer that is a number -/
theorem law_some {pos p p2 : Pos} {th : Str} {ct lt q : Addr} {oc : Obj} {n : Nat} {k : Int} {r : List Cont → Option Int} {Q : Value → Shared → Prop} (F : Fr h₀ L s.heap m) (N : News h₀ L s.heap news) (X : K.In h₀) (hA : A.frames = some [env]) (hL : env.frame = some L) (V : LawEnv env)
    (hd : A.depth + 1 < recursionLimit) (hu : A.units + 80 < cLine) (hh : A.handled = none) (hq : (q, methodObj (.ref f) (.ref x)) ∈ news) (hkeep : fnIn K f = true)
    (ans : ∀ base, h₀.StaysIn base → News h₀ L base news → Answers prog w base 80 1 f [.ref x] ok (fun cs v => IsRes (r cs) v))
    (hthk : env.kindOf th = some .cell) (hthd : (th == ("__debug__" : Str)) = false) (hthc : env.cells.lookup th = some ct) (hct : (ct, oc) ∈ news) (hoc : oc.data = .cell (some (.ref lt))) (hlt : (lt, W.listOf vs.toArray n) ∈ news)
    (hP : Made prog w objs vs cs) (hobj : ∀ p ∈ objs, p ∈ news) (h4 : cs.length ≤ 4) (hok : ok cs) (hr : r cs = some k)
    (hQ : ∀ h' tk t, Fr h₀ L h' m → News h₀ L h' news → Q (.int k t) { s with heap := h', toks := tk }) :
    wpAny (model prog w) A (callWith pos (.ref q) [] (backTo pos (starEach [.Starred (.Name th p2) p] env)) []) Q E s :=
  law_callM F N X hA hL V hd hu hh hkeep hq ans hthk hthd hthc hct hoc hlt hobj hP h4 hok fun h' tk v rr F' N' => by
    rw [hr] at rr; obtain ⟨t, rfl⟩ := rr; exact hQ h' tk t F' N'
theorem law_none {pos p p2 : Pos} {th : Str} {ct lt q : Addr} {oc : Obj} {n : Nat} {r : List Cont → Option Int} {Q : Value → Shared → Prop} (F : Fr h₀ L s.heap m) (N : News h₀ L s.heap news) (X : K.In h₀) (hA : A.frames = some [env]) (hL : env.frame = some L) (V : LawEnv env)
    (hd : A.depth + 1 < recursionLimit) (hu : A.units + 80 < cLine) (hh : A.handled = none) (hq : (q, methodObj (.ref f) (.ref x)) ∈ news) (hkeep : fnIn K f = true)
    (ans : ∀ base, h₀.StaysIn base → News h₀ L base news → Answers prog w base 80 1 f [.ref x] ok (fun cs v => IsRes (r cs) v))
    (hthk : env.kindOf th = some .cell) (hthd : (th == ("__debug__" : Str)) = false) (hthc : env.cells.lookup th = some ct) (hct : (ct, oc) ∈ news) (hoc : oc.data = .cell (some (.ref lt))) (hlt : (lt, W.listOf vs.toArray n) ∈ news)
    (hP : Made prog w objs vs cs) (hobj : ∀ p ∈ objs, p ∈ news) (h4 : cs.length ≤ 4) (hok : ok cs) (hr : r cs = none)
    (hQ : ∀ h' tk, Fr h₀ L h' m → News h₀ L h' news → Q .none { s with heap := h', toks := tk }) :
    wpAny (model prog w) A (callWith pos (.ref q) [] (backTo pos (starEach [.Starred (.Name th p2) p] env)) []) Q E s :=
  law_callM F N X hA hL V hd hu hh hkeep hq ans hthk hthd hthc hct hoc hlt hobj hP h4 hok fun h' tk v rr F' N' => by
    rw [hr] at rr; cases rr; exact hQ h' tk F' N'
end
end Mine

namespace Mine
def AllN (D : Addr) : List (Addr × Obj) → Prop
  | [] => True
  | p :: r => @Ne Nat p.1 D ∧ AllN D r
/-- two facts, held together -/
def Both (P Q : Prop) : Prop := P ∧ Q
theorem Both.mk {P Q : Prop} (p : P) (q : Q) : Both P Q := ⟨p, q⟩
theorem allN_of {D : Addr} : ∀ {l : List (Addr × Obj)}, (∀ p ∈ l, p.1 ≠ D) → AllN D l
  | [], _ => trivial
  | p :: _, h => ⟨h p (.head _), allN_of fun q hq => h q (.tail _ hq)⟩

theorem ints_mem : ∀ {vs : List Value} {xs : List Int}, IntsAre vs xs → ∀ v ∈ vs, IsInt v
  | _, _, .nil, v, hv => by cases hv
  | _, _, .cons n t r, v, hv => by
    rcases List.mem_cons.mp hv with e | e
    · subst e; exact ⟨_, _, rfl⟩
    · exact ints_mem r v e

section
variable {h₀ h h' : Heap} {L D : Addr} {m : Str → Option Value} {news : List (Addr × Obj)}
theorem new_list {ys : Array Value} (F : Fr h₀ L h m) (N : News h₀ L h news) (hD : h.get? D = none) (hp : h'.PlainList D ys) (k : ∀ b o, h.get? b = some o → h'.get? b = some o) :
    ∃ n, Fr h₀ L h' m ∧ News h₀ L h' ((D, W.listOf ys.toList.toArray n) :: news) ∧ AllN D news := by
  obtain ⟨n, q⟩ := hp
  obtain ⟨oL, es, ep, hoL, r⟩ := F.ns
  refine ⟨n, F.keeps k, fun p hp => ?_, allN_of fun p hp e => by rw [← e, (N p hp).1] at hD; cases hD⟩
  rcases List.mem_cons.mp hp with e | e
  · subst e
    have hDL : D ≠ L := fun e => by rw [e, hoL] at hD; cases hD
    have hD0 : h₀.get? D = none := by
      cases e2 : h₀.get? D with
      | none => rfl
      | some o => rw [F.keep _ _ e2] at hD; cases hD
    exact ⟨by simpa using q, hDL, hD0⟩
  · exact N.grown k p e
end

section
variable {M : Model} {α : Type} {A : Around} {E : Value → Shared → Prop} {s : Shared}
theorem gen_pos {t : Sem α} {Q : α → Shared → Prop} (hp : 0 < s.toks) (h : ∀ tk : Nat, 0 < tk → wpAny M A t Q E { s with toks := tk }) : wpAny M A t Q E s := h s.toks hp
end

theorem made_of {prog : Program} {w : World} {objs : List (Addr × Obj)} {pool : List Value} (hpool : ∀ v ∈ pool, ∃ c : Cont, c.ok = true ∧ ∀ h : Heap, (∀ p ∈ objs, h.get? p.1 = some p.2) → PV prog w h v c) :
    ∀ ys : List Value, (∀ v ∈ ys, v ∈ pool) → ∃ cs : List Cont, cs.length = ys.length ∧ Made prog w objs ys cs
  | [], _ => ⟨[], rfl, fun _ _ => .nil⟩
  | y :: ys, h => by
    obtain ⟨c, ok, pv⟩ := hpool y (h y (.head _))
    obtain ⟨cs, e, M⟩ := made_of hpool ys fun v hv => h v (.tail _ hv)
    exact ⟨c :: cs, by simp [e], fun h' ho => .cons (pv h' ho) ok (M h' ho)⟩

theorem pool_ok {prog : Program} {w : World} {t0 t1 t2 t3 t4 t5 t6 t7 t8 : Tok} {l4 l3 l2 D2 D1 : Addr} {n2 n3 n4 : Nat} (e0 : t0 ≠ 0) (e1 : t1 ≠ 0) (e2 : t2 ≠ 0) (e3 : t3 ≠ 0) (e4 : t4 ≠ 0) :
    ∀ v ∈ (#[.str "" t0, .str "a" t1, .str "b" t2, .str "ab" t3, .str "ba" t4, .ref l4, .ref l3, .ref l2, .ref D2, .ref D1] : Array Value).toList, ∃ c : Cont, c.ok = true ∧ ∀ h : Heap,
      (∀ p ∈ ([(D1, { cls := .type "tuple", data := .seq #[.str "a" t8] }), (D2, { cls := .type "tuple", data := .seq #[] }), (l2, W.listOf #[.str "a" t6, .str "b" t7] n2), (l3, W.listOf #[.str "a" t5] n3), (l4, W.listOf #[] n4)] : List (Addr × Obj)), h.get? p.1 = some p.2) → PV prog w h v c := by
  intro v hv
  simp only [List.mem_cons, List.not_mem_nil, or_false] at hv
  have k1 : ∀ (x : Str) (t : Tok), (strKind prog w).is x (.str x t) = true := fun x t => by show Value.isStrOf x (.str x t) = true; simp [Value.isStrOf]
  rcases hv with rfl | rfl | rfl | rfl | rfl | rfl | rfl | rfl | rfl | rfl
  · exact ⟨.str "", by decide +kernel, fun _ _ => .str _ _ e0⟩
  · exact ⟨.str "a", by decide +kernel, fun _ _ => .str _ _ e1⟩
  · exact ⟨.str "b", by decide +kernel, fun _ _ => .str _ _ e2⟩
  · exact ⟨.str "ab", by decide +kernel, fun _ _ => .str _ _ e3⟩
  · exact ⟨.str "ba", by decide +kernel, fun _ _ => .str _ _ e4⟩
  · exact ⟨.lst [], by decide +kernel, fun h ho => .lst (ho (l4, _) (.tail _ (.tail _ (.tail _ (.tail _ (.head _)))))) rfl rfl .nil⟩
  · exact ⟨.lst ["a"], by decide +kernel, fun h ho => .lst (ho (l3, _) (.tail _ (.tail _ (.tail _ (.head _))))) rfl rfl (.cons (k1 _ _) .nil)⟩
  · exact ⟨.lst ["a", "b"], by decide +kernel, fun h ho => .lst (ho (l2, _) (.tail _ (.tail _ (.head _)))) rfl rfl (.cons (k1 _ _) (.cons (k1 _ _) .nil))⟩
  · exact ⟨.tup [], by decide +kernel, fun h ho => .tup (ho (D2, _) (.tail _ (.head _))) rfl rfl .nil⟩
  · exact ⟨.tup ["a"], by decide +kernel, fun h ho => .tup (ho (D1, _) (.head _)) rfl rfl (.cons (k1 _ _) .nil)⟩
end Mine

namespace Mine
section
variable {prog : Program} {w : World} {A : Around} {E : Value → Shared → Prop} {s : Shared} {env : Env} {h₀ : Heap} {L : Addr} {m mg mb : Str → Option Value} {news objs : List (Addr × Obj)} {vs : List Value} {cs : List Cont}
  {scope : Scope} {cl : List (Str × Addr)} {p : Program} {loose : List Str} {mean : ExcName → Option Value}

theorem mem5 {α : Type} {a b c d e : α} {l : List α} (h1 : a ∈ l) (h2 : b ∈ l) (h3 : c ∈ l) (h4 : d ∈ l) (h5 : e ∈ l) : ∀ p ∈ [a, b, c, d, e], p ∈ l := by
  intro p hp
  simp only [List.mem_cons, List.not_mem_nil, or_false] at hp
  rcases hp with rfl | rfl | rfl | rfl | rfl <;> assumption
theorem names_K (T : Top p loose mean mg mb h₀) : Names h₀ mg mb := ⟨T.g, T.b, T.builtins⟩

theorem head_K {sc : Str} {p1 p2 p3 p4 p5 p6 : Pos} {k1 k2 : Nat} {c l : Addr} {oc : Obj} {xs : List Int} {Q : Value → Shared → Prop} (F : Fr h₀ L s.heap m) (N : News h₀ L s.heap news) (V : LawEnv env)
    (hsk : env.kindOf sc = some .cell) (hsd : (sc == ("__debug__" : Str)) = false) (hsc : env.cells.lookup sc = some c) (hcm : (c, oc) ∈ news) (hoc : oc.data = .cell (some (.ref l))) (hl : h₀.IsList l vs.toArray) (hi : IntsAre vs xs) (hx : ¬ (63 : Int) < xs.length)
    (hsub : ∀ o i, subscripted (.Constant (.int 0) k1 p3) false o i = operate [o, i] (getItem o i)) (hgo : ∀ o r, letTemporaryGo (.Name sc p2) o r = pure ())
    (h : ∀ (i : Int) (t : Tok) (tk : Nat), Q (.int i t) { s with toks := tk }) :
    wpAny (model prog w) A (eval (.IfExp (.Name sc p1) (.Subscript (.Name sc p2) (.Constant (.int 0) k1 p3) p4) (.Constant (.int 0) k2 p5) p6) env) Q E s := by
  have hlen : vs.length ≤ 63 := by rw [hi.length]; omega
  have l₁ : s.heap.IsList l vs.toArray := by obtain ⟨o, q, r⟩ := hl; exact ⟨o, F.keep _ _ q, r⟩
  have cell : s.heap.IsCell c (some (.ref l)) := ⟨oc, (N _ hcm).1, hoc⟩
  refine wpAny_IfExp (wpAny_isTrue_value (he := rfl) (nm_cell V.k hsk hsd hsc cell (wpAny_truthy_list l₁ (by rw [List.size_toArray]; omega) ?_)))
  cases vs with
  | nil => simp only [List.isEmpty_toArray, List.isEmpty_nil, Bool.not_true, Bool.false_eq_true, if_false]; exact wpAny_Constant_int (h _ _ _)
  | cons v r =>
    simp only [List.isEmpty_toArray, List.isEmpty_cons, Bool.not_false, if_true]
    obtain ⟨i, t, rfl⟩ := ints_mem hi v (.head _)
    refine Mine.item_list (its := (Value.int i t :: r).toArray) (k := 0) (v := .int i t) hsub hgo (nm_cell (s := { s with toks := _ }) V.k hsk hsd hsc cell ⟨rfl, wpAny_Constant_int ⟨⟨_, rfl⟩, l₁, Int.le_refl _, by decide, rfl, h _ _ _⟩⟩)

theorem picked_K {kx many sc : Str} {p1 p2 p3 p4 p5 p6 p7 p8 p9 q1 q2 q3 q4 q5 r1 r2 r3 px pos : Pos} {k1 k2 : Nat} {c l : Addr} {oc : Obj} {xs : List Int} {mny : Int} {tn : Tok} {Q : Value → Shared → Prop}
    (F : Fr h₀ L s.heap m) (N : News h₀ L s.heap news) (hh : A.handled = none) (T : Names h₀ mg mb) (V : LawEnv env) (hL : env.locals = L) (B : Blk env scope cl kx)
    (hmk : env.kindOf many = some .local) (hmd : (many == ("__debug__" : Str)) = false) (hmm : m many = some (.int mny tn)) (h0 : 0 ≤ mny ∧ mny < 5)
    (hrg : mg "range" = none) (hlen : mg "len" = none) (hrk : env.kindOf "range" = some .globalImplicit) (hlk : ∀ C, (compEnvC scope cl C env).kindOf "len" = some .globalImplicit) (hsk : ∀ C, (compEnvC scope cl C env).kindOf sc = some .cell) (hsd : (sc == ("__debug__" : Str)) = false)
    (hck : cl.lookup sc = some c) (hcm : (c, oc) ∈ news) (hoc : oc.data = .cell (some (.ref l))) (hl : h₀.IsList l vs.toArray) (hi : IntsAre vs xs) (hx : ¬ (63 : Int) < xs.length)
    (hs : ∀ x, foldedSetIterable (.Call (.Name "range" r1) [.Name many r2] [] r3) env x = pure x)
    (hsub : ∀ o i, subscripted (.BinOp (.Name kx p9) .Add (.Constant (.int 1) k2 q1) q2) false o i = operate [o, i] (getItem o i)) (hgo : ∀ o r, letTemporaryGo (.Name sc p8) o r = pure ())
    (hQ : ∀ D h' tk n (ys : List Value), Fr h₀ L h' m → News h₀ L h' ((D, W.listOf ys.toArray n) :: news) → AllN D news → ((ys.length : Int) = mny ∧ (ys.length : Int) < 5) → (∀ v ∈ ys, IsInt v) → Q (.ref D) { s with heap := h', toks := tk }) :
    wpAny (model prog w) A (eval (.ListComp (.IfExp (.Compare (.BinOp (.Name kx p1) .Add (.Constant (.int 1) k1 p2) p3) [.Lt] [.Call (.Name "len" p4) [.Name sc p5] [] p6] p7)
      (.Subscript (.Name sc p8) (.BinOp (.Name kx p9) .Add (.Constant (.int 1) k2 q1) q2) q3) (.Name kx q4) q5) [⟨.Name kx px, .Call (.Name "range" r1) [.Name many r2] [] r3, [], 0⟩] scope pos) env) Q E s := by
  have hl63 : vs.length ≤ 63 := by rw [hi.length]; omega
  refine comp_picked hh T F.keep V B (by rw [hL]; exact F.ns) hmk hmd hmm h0.1 (by omega) hrg hlen hrk hlk hsk hsd hck ⟨oc, (N _ hcm).1, hoc⟩ (l := l) (its := vs.toArray) (by obtain ⟨o, q, r⟩ := hl; exact ⟨o, F.keep _ _ q, r⟩) (ints_mem hi) (by rw [List.size_toArray]; omega) hs hsub hgo fun D h' tk ys hD hp e hint k => ?_
  obtain ⟨n, F', N', al⟩ := new_list F N hD hp k
  have e' : (ys.toList.length : Int) = mny := by simpa using e
  exact hQ D h' tk n ys.toList F' N' al ⟨e', by omega⟩ hint

theorem things_K {way nx pk po fl th : Str} {w0 w1 w2 w3 w4 w5 w6 w7 a1 a2 a3 b1 b2 b3 b4 b5 b6 b7 b8 b9 d1 d2 d3 d4 d5 d6 d7 d8 d9 e1 e2 e3 e4 e5 e6 e7 e8 e9 f1 f2 f3 pos : Pos} {k0 k1 k2 k3 k4 k5 : Nat}
    {s0 s1 s2 : Scope} {cl0 cl1 cl2 : List (Str × Addr)} {cpk cpo cfl l lp lf : Addr} {opk opo ofl : Obj} {pks : List Value} {pool full : Array Value} {np nl nf : Nat} {wy : Int} {tw : Tok} {Q : Flow → Shared → Prop}
    (F : Fr h₀ L s.heap m) (N : News h₀ L s.heap news) (hh : A.handled = none) (V : LawEnv env) (hL : env.locals = L) (B0 : Blk env s0 cl0 nx) (B1 : Blk env s1 cl1 nx) (B2 : Blk env s2 cl2 nx)
    (hwk : env.kindOf way = some .local) (hwd : (way == ("__debug__" : Str)) = false) (hwm : m way = some (.int wy tw))
    (hpk : env.kindOf pk = some .cell) (hpkd : (pk == ("__debug__" : Str)) = false) (hpkc : env.cells.lookup pk = some cpk) (hpkm : (cpk, opk) ∈ news) (hpko : opk.data = .cell (some (.ref l))) (hl : (l, W.listOf pks.toArray nl) ∈ news) (hints : ∀ v ∈ pks, IsInt v) (hmy : (pks.length : Int) < 5)
    (hpod : (po == ("__debug__" : Str)) = false) (hpom : (cpo, opo) ∈ news) (hpoo : opo.data = .cell (some (.ref lp))) (hlp : (lp, W.listOf pool np) ∈ news) (hp10 : pool.size = 10)
    (hfld : (fl == ("__debug__" : Str)) = false) (hflm : (cfl, ofl) ∈ news) (hflo : ofl.data = .cell (some (.ref lf))) (hlf : (lf, W.listOf full nf) ∈ news) (hf7 : full.size = 7) (hfull : ∀ v ∈ full.toList, ∃ i t, v = .int i t ∧ 0 ≤ i ∧ i < 10)
    (po0 : ∀ C, (compEnvC s0 cl0 C env).kindOf po = some .cell) (po1 : ∀ C, (compEnvC s1 cl1 C env).kindOf po = some .cell) (po2 : ∀ C, (compEnvC s2 cl2 C env).kindOf po = some .cell)
    (cp0 : cl0.lookup po = some cpo) (cp1 : cl1.lookup po = some cpo) (cp2 : cl2.lookup po = some cpo)
    (pk0 : ∀ C, (compEnvC s0 cl0 C env).kindOf pk = some .cell) (ck0 : cl0.lookup pk = some cpk) (fl1 : ∀ C, (compEnvC s1 cl1 C env).kindOf fl = some .cell) (cf1 : cl1.lookup fl = some cfl)
    (hpool : (∀ v ∈ pool.toList, ∃ c : Cont, c.ok = true ∧ ∀ h : Heap, (∀ p ∈ objs, h.get? p.1 = some p.2) → PV prog w h v c) ∧ ∀ p ∈ objs, p ∈ news)
    (hs : ∀ p x, foldedSetIterable (.Name pk p) env x = pure x)
    (sb0 : ∀ o i, subscripted (.BinOp (.Subscript (.Name pk b2) (.Constant (.int 0) k1 b3) b4) .Mod (.Constant (.int 10) k2 b5) b6) false o i = operate [o, i] (getItem o i))
    (sb0' : ∀ o i, subscripted (.Constant (.int 0) k1 b3) false o i = operate [o, i] (getItem o i))
    (sb1 : ∀ o i, subscripted (.Subscript (.Name fl d2) (.BinOp (.Name nx d3) .Mod (.Constant (.int 7) k4 d4) d5) d6) false o i = operate [o, i] (getItem o i))
    (sb1' : ∀ o i, subscripted (.BinOp (.Name nx d3) .Mod (.Constant (.int 7) k4 d4) d5) false o i = operate [o, i] (getItem o i))
    (sb2 : ∀ o i, subscripted (.BinOp (.Name nx e2) .Mod (.Constant (.int 10) k5 e3) e4) false o i = operate [o, i] (getItem o i))
    (hgo : ∀ x p o r, letTemporaryGo (.Name x p) o r = pure ())
    (sw0 : swapsWith (.ListComp (.Subscript (.Name po b1) (.BinOp (.Subscript (.Name pk b2) (.Constant (.int 0) k1 b3) b4) .Mod (.Constant (.int 10) k2 b5) b6) b7) [⟨.Name nx b8, .Name pk b9, [], 0⟩] s0 a1) (some (.Name th a2)) a3.line env = pure false)
    (sw1 : swapsWith (.ListComp (.Subscript (.Name po d1) (.Subscript (.Name fl d2) (.BinOp (.Name nx d3) .Mod (.Constant (.int 7) k4 d4) d5) d6) d7) [⟨.Name nx d8, .Name pk d9, [], 0⟩] s1 w4) (some (.Name th w5)) w6.line env = pure false)
    (sw2 : swapsWith (.ListComp (.Subscript (.Name po e1) (.BinOp (.Name nx e2) .Mod (.Constant (.int 10) k5 e3) e4) e5) [⟨.Name nx e6, .Name pk e7, [], 0⟩] s2 f1) (some (.Name th f2)) f3.line env = pure false)
    (hQ : ∀ D h' tk n (vs : List Value) (cs : List Cont), Fr h₀ L h' m → News h₀ L h' ((D, W.listOf vs.toArray n) :: news) → AllN D news → cs.length = pks.length → cs.length ≤ 4 → Made prog w objs vs cs →
      wpAny (model prog w) A (storeName env th (.ref D)) (fun _ => Q .next) E { s with heap := h', toks := tk }) :
    wpAny (model prog w) A (exec (.If (.Compare (.Name way w0) [.Eq] [.Constant (.int 0) k0 w1] w2)
        [.Assign [.Name th a2] (.ListComp (.Subscript (.Name po b1) (.BinOp (.Subscript (.Name pk b2) (.Constant (.int 0) k1 b3) b4) .Mod (.Constant (.int 10) k2 b5) b6) b7) [⟨.Name nx b8, .Name pk b9, [], 0⟩] s0 a1) a3]
      [.If (.Compare (.Name way w3) [.Eq] [.Constant (.int 1) k3 w7] e8)
        [.Assign [.Name th w5] (.ListComp (.Subscript (.Name po d1) (.Subscript (.Name fl d2) (.BinOp (.Name nx d3) .Mod (.Constant (.int 7) k4 d4) d5) d6) d7) [⟨.Name nx d8, .Name pk d9, [], 0⟩] s1 w4) w6]
        [.Assign [.Name th f2] (.ListComp (.Subscript (.Name po e1) (.BinOp (.Name nx e2) .Mod (.Constant (.int 10) k5 e3) e4) e5) [⟨.Name nx e6, .Name pk e7, [], 0⟩] s2 f1) f3] e9] pos) env) Q E s := by
  have lst : ∀ {a : Addr} {its : Array Value} {n : Nat}, (a, W.listOf its n) ∈ news → s.heap.IsList a its := fun q => ⟨_, (N _ q).1, rfl, _, rfl⟩
  refine things_stmt hh V B0 B1 B2 (by rw [hL]; exact F.ns) hwk hwd hwm hpk hpkd hpkc ⟨opk, (N _ hpkm).1, hpko⟩ (lst hl) hints (by rw [List.size_toArray]; omega) hpod ⟨opo, (N _ hpom).1, hpoo⟩ (lst hlp) hp10 hfld ⟨ofl, (N _ hflm).1, hflo⟩ (lst hlf) hf7 hfull po0 po1 po2 cp0 cp1 cp2 pk0 ck0 fl1 cf1 hs sb0 sb0' sb1 sb1' sb2 hgo sw0 sw1 sw2 fun D h' tk ys hD hp e hy k => ?_
  obtain ⟨n, F', N', al⟩ := new_list F N hD hp k
  obtain ⟨cs, ec, M⟩ := made_of hpool.1 ys.toList hy
  have e2 : ys.toList.length = pks.length := by simpa using e
  exact hQ D h' tk n ys.toList cs F' N' al (by omega) (by omega) M

theorem equal_K {tx th : Str} {p1 p2 p3 p4 p5 p6 p7 p8 p9 q1 pos : Pos} {k0 n : Nat} {ct lt : Addr} {oc : Obj} {Q : Value → Shared → Prop} (F : Fr h₀ L s.heap m) (N : News h₀ L s.heap news)
    (hu : A.units + 8 < cLine) (hh : A.handled = none) (V : LawEnv env) (B : Blk env scope cl tx) (htk : env.kindOf th = some .cell) (htd : (th == ("__debug__" : Str)) = false) (htc : env.cells.lookup th = some ct) (hct : (ct, oc) ∈ news) (hoc : oc.data = .cell (some (.ref lt))) (hlt : (lt, W.listOf vs.toArray n) ∈ news)
    (htk' : ∀ C, (compEnvC scope cl C env).kindOf th = some .cell) (htc' : cl.lookup th = some ct)
    (hobj : ∀ p ∈ objs, p ∈ news) (hp : Made prog w objs vs cs) (h4 : cs.length ≤ 4) (hs : ∀ x, foldedSetIterable (.Name th p3) env x = pure x)
    (hsub : ∀ o i, subscripted (.Constant (.int 0) k0 p6) false o i = operate [o, i] (getItem o i)) (hgo : ∀ o r, letTemporaryGo (.Name th p5) o r = pure ())
    (hQ : ∀ h' tk, Fr h₀ L h' m → News h₀ L h' news → Q (.bool (eqB cs)) { s with heap := h', toks := tk }) :
    wpAny (model prog w) A (eval (.Compare (.ListComp (.Name tx p1) [⟨.Name tx p2, .Name th p3, [.Compare (.Name tx p4) [.NotEq] [.Subscript (.Name th p5) (.Constant (.int 0) k0 p6) p7] p8], 0⟩] scope pos) [.Eq] [.List [] p9] q1) env) Q E s :=
  equal_rule hu hh V B htk htd htc ⟨oc, (N _ hct).1, hoc⟩ ⟨_, (N _ hlt).1, rfl, _, rfl⟩ htk' htc' (hp _ fun p hp => (N p (hobj p hp)).1) h4 hs hsub hgo fun h' tk k => hQ h' tk (F.keeps k) (N.grown k)

theorem empty_K {tx th : Str} {p1 p2 p3 p4 p5 p6 p7 p8 p9 q1 pos : Pos} {k0 n : Nat} {ct lt : Addr} {oc : Obj} {Q : Value → Shared → Prop} (F : Fr h₀ L s.heap m) (N : News h₀ L s.heap news) (T : Names h₀ mg mb)
    (hu : A.units + 8 < cLine) (hh : A.handled = none) (V : LawEnv env) (B : Blk env scope cl tx) (htk : env.kindOf th = some .cell) (htd : (th == ("__debug__" : Str)) = false) (htc : env.cells.lookup th = some ct) (hct : (ct, oc) ∈ news) (hoc : oc.data = .cell (some (.ref lt))) (hlt : (lt, W.listOf vs.toArray n) ∈ news)
    (hlen : mg "len" = none) (hlk : ∀ C, (compEnvC scope cl C env).kindOf "len" = some .globalImplicit)
    (hobj : ∀ p ∈ objs, p ∈ news) (hp : Made prog w objs vs cs) (h4 : cs.length ≤ 4) (hs : ∀ x, foldedSetIterable (.Name th p3) env x = pure x)
    (hQ : ∀ h' tk, Fr h₀ L h' m → News h₀ L h' news → Q (.bool (!allFull cs)) { s with heap := h', toks := tk }) :
    wpAny (model prog w) A (eval (.Compare (.ListComp (.Name tx p1) [⟨.Name tx p2, .Name th p3, [.Compare (.Call (.Name "len" p4) [.Name tx p5] [] p6) [.Eq] [.Constant (.int 0) k0 p7] p8], 0⟩] scope pos) [.NotEq] [.List [] p9] q1) env) Q E s :=
  empty_rule T F.keep hu hh V B htk htd htc ⟨oc, (N _ hct).1, hoc⟩ ⟨_, (N _ hlt).1, rfl, _, rfl⟩ hlen hlk (hp _ fun p hp => (N p (hobj p hp)).1) h4 hs fun h' tk k => hQ h' tk (F.keeps k) (N.grown k)

theorem most_K {tx th many : Str} {p1 p2 p3 p4 p5 p6 p7 p8 p9 q1 q2 q3 pos : Pos} {k0 k1 n : Nat} {ct lt : Addr} {oc : Obj} {mny : Int} {tn : Tok} {Q : Value → Shared → Prop} (F : Fr h₀ L s.heap m) (N : News h₀ L s.heap news) (T : Names h₀ mg mb)
    (hh : A.handled = none) (V : LawEnv env) (hL : env.locals = L) (B : Blk env scope cl tx) (htk : env.kindOf th = some .cell) (htd : (th == ("__debug__" : Str)) = false) (htc : env.cells.lookup th = some ct) (hct : (ct, oc) ∈ news) (hoc : oc.data = .cell (some (.ref lt))) (hlt : (lt, W.listOf vs.toArray n) ∈ news)
    (hmk : env.kindOf many = some .local) (hmd : (many == ("__debug__" : Str)) = false) (hmm : m many = some (.int mny tn)) (hmny : mny = (cs.length : Int))
    (hlen : mg "len" = none) (hmax : mg "max" = none) (hlk : ∀ C, (compEnvC scope cl C env).kindOf "len" = some .globalImplicit) (hmaxk : env.kindOf "max" = some .globalImplicit)
    (hobj : ∀ p ∈ objs, p ∈ news) (hp : Made prog w objs vs cs) (h4 : cs.length ≤ 4) (hs : ∀ x, foldedSetIterable (.Name th q3) env x = pure x)
    (hQ : ∀ h' tk t, Fr h₀ L h' m → News h₀ L h' news → Q (.int (mostC cs) t) { s with heap := h', toks := tk }) :
    wpAny (model prog w) A (eval (.IfExp (.Compare (.Name many p1) [.Gt] [.Constant (.int 0) k0 p2] p3)
      (.Call (.Name "max" p4) [.ListComp (.Call (.Name "len" p5) [.Name tx p6] [] p7) [⟨.Name tx p8, .Name th q3, [], 0⟩] scope pos] [] p9) (.Constant (.int 0) k1 q1) q2) env) Q E s :=
  most_rule T F.keep hh V B htk htd htc ⟨oc, (N _ hct).1, hoc⟩ ⟨_, (N _ hlt).1, rfl, _, rfl⟩ (by rw [hL]; exact F.ns) hmk hmd hmm hmny hlen hmax hlk hmaxk (hp _ fun p hp => (N p (hobj p hp)).1) h4 hs fun h' tk t k => hQ h' tk t (F.keeps k) (N.grown k)

theorem full_ok {t1 t2 t3 t4 t5 t6 t7 : Tok} : ∀ v ∈ (#[.int 1 t1, .int 2 t2, .int 3 t3, .int 4 t4, .int 6 t5, .int 7 t6, .int 9 t7] : Array Value).toList, ∃ i t, v = .int i t ∧ 0 ≤ i ∧ i < 10 := by
  intro v hv
  simp only [List.mem_cons, List.not_mem_nil, or_false] at hv
  rcases hv with rfl | rfl | rfl | rfl | rfl | rfl | rfl <;> exact ⟨_, _, rfl, by decide, by decide⟩

theorem methodCall_star' {M : Model} {o : Expr} {name : Str} {apos p pos : Pos} {e : Expr} {Q : Value → Shared → Prop} (hbase : attributeBase o name env (eval o env) = eval o env)
    (h : wpAny M A (eval o env) (fun ov s₁ => wpAny M A (getAttr ov name true) (fun f s₂ => wpAny M A (callWith pos f [] (backTo pos (starEach [.Starred e p] env)) []) Q E s₂) E s₁) E s) :
    wpAny M A (eval (.Call (.Attribute o name apos) [.Starred e p] [] pos) env) Q E s := by
  have he : eval (.Call (.Attribute o name apos) [.Starred e p] [] pos) env = (do
      let ov ← attributeBase o name env (eval o env)
      standAt apos.atName
      let (f, first) ← holding [ov] (do pure (← getAttr ov name true, []))
      callWith pos f first (backTo pos (starEach [.Starred e p] env)) []) := rfl
  rw [he, hbase]
  refine wpAny_bind (wpAny_mono h (fun ov s₁ h₁ => wpAny_bind (wpAny_standAt (wpAny_bind (wpAny_holding (wpAny_bind (wpAny_mono h₁ (fun f s₂ h₂ => wpAny_pure ?_) fun _ _ x => x)))))) fun _ _ x => x)
  exact h₂

theorem get_static_K {K : Frag} {x C q f : Addr} {ox : Obj} {es : List DictEntry} {n : Nat} {name : Str} {rest : List Value} {expr : Bool} {Q : Value → Shared → Prop} (F : Fr h₀ L s.heap m) (X₀ : K.In h₀) (I : InstAt s.heap x ox C (some (dictOf es n)))
    (hg : plainGet K C name = true) (hh : hasDictIn K C = true) (ha : findIn K (.ref C) name = some (some (.ref q))) (hgf : specialIn K (.ref q) "__get__" = some (some (.builtin "staticmethod.__get__"))) (hts : takesIn K (.ref q) = some false)
    (hc : copiedNames.contains name = false) (hl : getL name es = some none) (hp : recIn K q "staticmethod" = some (.ref f :: rest)) (h : Q (.ref f) { s with toks := s.toks + 1 }) : wpAny (model prog w) A (getAttr (.ref x) name expr) Q E s :=
  get_static (X₀.keeps F.keep) I hg (findObj_fn hh ha hgf hts hc (by show lookIn name (dictOf es n) = _; rw [lookIn_dict, hl])) hp h

theorem eqB_allEq (h2 : ¬ cs.length < 2) : allEq cs = eqB cs := allEq_eqB (by intro e; rw [e] at h2; simp at h2)
theorem three (cs : List Cont) : cs.length = 0 ∨ cs.length = 1 ∨ 2 ≤ cs.length := by omega
theorem no_differ (e : eqB cs = false) (h : cs.length < 2) : False := by
  match cs, h with
  | [], _ => cases e
  | [c], _ => simp [eqB] at e
  | _ :: _ :: _, h => simp at h; omega
theorem no_empty (e : (!allFull cs) = true) (h : cs.length = 0) : False := by
  have : cs = [] := List.length_eq_zero_iff.mp h
  subst this; simp [allFull] at e
theorem allEq_zero (h : cs.length = 0) : allEq cs = false := by
  have : cs = [] := List.length_eq_zero_iff.mp h
  subst this; rfl
theorem allEq_some {b : Bool} (h : cs.length ≠ 0) (e : eqB cs = b) : allEq cs = b := by
  rw [allEq_eqB (by intro q; rw [q] at h; exact h rfl)]; exact e
theorem qB_short (h : cs.length < 2) : quickB cs = some 0 := by unfold quickB; rw [if_pos (by omega)]
theorem qB_eq (h : eqB cs = true) : quickB cs = some 0 := by
  by_cases h2 : cs.length < 2
  · exact qB_short h2
  · unfold quickB; rw [if_neg (by omega), if_pos ((eqB_allEq h2).trans h)]
theorem qB_empty (h2 : ¬ cs.length < 2) (he : eqB cs = false) (hf : (!allFull cs) = true) : quickB cs = some (mostC cs) := by
  unfold quickB; rw [if_neg (by omega), if_neg (by rw [eqB_allEq h2, he]; decide), if_neg (by intro q; rw [q] at hf; cases hf)]
theorem qB_none (h2 : ¬ cs.length < 2) (he : eqB cs = false) (hf : (!allFull cs) = false) : quickB cs = none := by
  unfold quickB; rw [if_neg (by omega), if_neg (by rw [eqB_allEq h2, he]; decide), if_pos (by simpa using hf)]
theorem qS_short {M : List Cont → Int} (h : cs.length < 2) : quickS M cs = some (M cs) := by unfold quickS; rw [if_pos (by omega)]
theorem qS_eq {M : List Cont → Int} (h : eqB cs = true) : quickS M cs = some (M cs) := by
  by_cases h2 : cs.length < 2
  · exact qS_short h2
  · unfold quickS; rw [if_neg (by omega), if_pos ((eqB_allEq h2).trans h)]
theorem qS_empty {M : List Cont → Int} (h2 : ¬ cs.length < 2) (he : eqB cs = false) (hf : (!allFull cs) = true) : quickS M cs = some 0 := by
  unfold quickS; rw [if_neg (by omega), if_neg (by rw [eqB_allEq h2, he]; decide), if_neg (by intro q; rw [q] at hf; cases hf)]
theorem qS_none {M : List Cont → Int} (h2 : ¬ cs.length < 2) (he : eqB cs = false) (hf : (!allFull cs) = false) : quickS M cs = none := by
  unfold quickS; rw [if_neg (by omega), if_neg (by rw [eqB_allEq h2, he]; decide), if_pos (by simpa using hf)]
end
end Mine

namespace Mine
section
variable {prog : Program} {w : World} {A : Around} {E : Value → Shared → Prop} {s : Shared} {o : Option Int} {v u : Value} {a b : Bool} {cs : List Cont}
theorem res_ne {Q : Value → Shared → Prop} (hv : IsRes o v) (hu' : IsRes o u) (hu : A.units + 8 < cLine) (h : Q (.bool false) s) : wpAny (model prog w) A (compareOp .NotEq v u) Q E s := by
  cases o with
  | none =>
    cases hv; cases hu'
    exact PySem.SeqAt.compareNe_reads .none .none rfl rfl (by simp [PyData.depth]; omega) h
  | some n =>
    obtain ⟨t, rfl⟩ := hv
    obtain ⟨t', rfl⟩ := hu'
    exact PySem.SeqAt.compareNe_reads (.int n t) (.int n t') rfl rfl (by simp [PyData.depth]; omega) (by simpa [PyData.eqv] using h)
theorem res_eq {Q : Value → Shared → Prop} (hv : IsRes o v) (hu' : IsRes o u) (hu : A.units + 8 < cLine) (h : Q (.bool true) s) : wpAny (model prog w) A (compareOp .Eq v u) Q E s := by
  cases o with
  | none =>
    cases hv; cases hu'
    exact PySem.SeqAt.compareEq_reads .none .none rfl rfl (by simp [PyData.depth]; omega) h
  | some n =>
    obtain ⟨t, rfl⟩ := hv
    obtain ⟨t', rfl⟩ := hu'
    exact PySem.SeqAt.compareEq_reads (.int n t) (.int n t') rfl rfl (by simp [PyData.depth]; omega) (by simpa [PyData.eqv] using h)
theorem bool_ne {Q : Value → Shared → Prop} (e : a = b) (hu : A.units + 8 < cLine) (h : Q (.bool false) s) : wpAny (model prog w) A (compareOp .NotEq (.bool a) (.bool b)) Q E s := by
  subst e
  exact PySem.SeqAt.compareNe_reads (.bool a) (.bool a) rfl rfl (by simp [PyData.depth]; omega) (by simpa [PyData.eqv] using h)

theorem isB_short {t : Tok} (h : cs.length < 2) : IsRes (quickB cs) (.int 0 t) := by rw [qB_short h]; exact ⟨t, rfl⟩
theorem isB_eq {t : Tok} (h : eqB cs = true) : IsRes (quickB cs) (.int 0 t) := by rw [qB_eq h]; exact ⟨t, rfl⟩
theorem isB_empty {t : Tok} (he : eqB cs = false) (hf : allFull cs = false) (h2 : ¬ cs.length < 2) : IsRes (quickB cs) (.int (mostC cs) t) := by rw [qB_empty h2 he (by rw [hf]; rfl)]; exact ⟨t, rfl⟩
theorem isB_none (he : eqB cs = false) (hf : allFull cs = true) (h2 : ¬ cs.length < 2) : IsRes (quickB cs) .none := by rw [qB_none h2 he (by rw [hf]; rfl)]; rfl
theorem isS_short {M : List Cont → Int} {t : Tok} (h : cs.length < 2) : IsRes (quickS M cs) (.int (M cs) t) := by rw [qS_short h]; exact ⟨t, rfl⟩
theorem isS_eq {M : List Cont → Int} {t : Tok} (h : eqB cs = true) : IsRes (quickS M cs) (.int (M cs) t) := by rw [qS_eq h]; exact ⟨t, rfl⟩
theorem isS_empty {M : List Cont → Int} {t : Tok} (he : eqB cs = false) (hf : allFull cs = false) (h2 : ¬ cs.length < 2) : IsRes (quickS M cs) (.int 0 t) := by rw [qS_empty h2 he (by rw [hf]; rfl)]; exact ⟨t, rfl⟩
theorem isS_none {M : List Cont → Int} (he : eqB cs = false) (hf : allFull cs = true) (h2 : ¬ cs.length < 2) : IsRes (quickS M cs) .none := by rw [qS_none h2 he (by rw [hf]; rfl)]; rfl
end

/-- the three ways meet: what far, near and whole hold -/
def Mid (h₀ : Heap) (L : Addr) (m : Str → Option Value) (news : List (Addr × Obj)) (s : Shared) (cs : List Cont) (fl : Flow) (s' : Shared) : Prop :=
  fl = .next ∧ ∃ far near whole h' tk, s' = { s with heap := h', toks := tk } ∧ Fr h₀ L h' (fun y => if y = ("whole" : Str) then some whole else if y = ("near" : Str) then some near else if y = ("far" : Str) then some far else m y) ∧ News h₀ L h' news ∧
    IsRes (quickB cs) far ∧ IsRes (quickS mostC cs) near ∧ IsRes (quickS (fun _ => 1) cs) whole

theorem fr_swap {h₀ h : Heap} {L : Addr} {m : Str → Option Value} {a b c : Option Value} (F : Fr h₀ L h (fun y => if y = ("far" : Str) then a else if y = ("near" : Str) then b else if y = ("whole" : Str) then c else m y)) :
    Fr h₀ L h (fun y => if y = ("whole" : Str) then c else if y = ("near" : Str) then b else if y = ("far" : Str) then a else m y) := by
  have e : (fun y : Str => if y = ("far" : Str) then a else if y = ("near" : Str) then b else if y = ("whole" : Str) then c else m y) = (fun y => if y = ("whole" : Str) then c else if y = ("near" : Str) then b else if y = ("far" : Str) then a else m y) := by
    funext y
    have h1 : ("far" : Str) ≠ ("near" : Str) := by decide
    have h2 : ("far" : Str) ≠ ("whole" : Str) := by decide
    have h3 : ("near" : Str) ≠ ("whole" : Str) := by decide
    by_cases e1 : y = ("far" : Str)
    · subst e1; simp [h1, h2]
    · by_cases e2 : y = ("near" : Str)
      · subst e2; simp [h1.symm, h3]
      · by_cases e3 : y = ("whole" : Str)
        · subst e3; simp [h2.symm, h3.symm]
        · simp [e1, e2, e3]
  rw [← e]; exact F
theorem news_tail {h₀ h : Heap} {L : Addr} {p : Addr × Obj} {news : List (Addr × Obj)} (N : News h₀ L h (p :: news)) : News h₀ L h news := fun q hq => N q (List.mem_cons_of_mem _ hq)

theorem mid_step {M : Model} {A : Around} {E : Value → Shared → Prop} {s : Shared} {h₀ : Heap} {L : Addr} {m : Str → Option Value} {news : List (Addr × Obj)} {cs : List Cont} {st : Stmt} {rest : List Stmt} {env : Env} {Q : Flow → Shared → Prop}
    (_F : Fr h₀ L s.heap m) (_N : News h₀ L s.heap news) (_e : cs.length ≤ 4)
    (h : wpAny M A (exec st env) (Mid h₀ L m news s cs) E s)
    (k : ∀ far near whole h' tk, Fr h₀ L h' (fun y => if y = ("whole" : Str) then some whole else if y = ("near" : Str) then some near else if y = ("far" : Str) then some far else m y) → News h₀ L h' news →
      IsRes (quickB cs) far → IsRes (quickS mostC cs) near → IsRes (quickS (fun _ => 1) cs) whole → wpAny M A (execs rest env) Q E { s with heap := h', toks := tk }) :
    wpAny M A (execs (st :: rest) env) Q E s := by
  refine wpAny_execs_cons (wpAny_mono h (fun fl s' hm => ?_) fun _ _ x => x)
  obtain ⟨rfl, far, near, whole, h', tk, rfl, F', N', r1, r2, r3⟩ := hm
  exact k far near whole h' tk F' N' r1 r2 r3
end Mine

namespace Mine
section
variable {prog : Program} {w : World} {A : Around} {E : Value → Shared → Prop} {s : Shared} {envs : List Env} {base : Heap} {mg mb : Str → Option Value}
theorem caught_fly {env : Env} {L e : Addr} {a0 : Value} {np pos : Pos} {b₀ : Stmt} {suite : List Stmt} {rest : List ExceptHandler} {Q : Flow → Shared → Prop} {x : Str} (hfr : A.frames = some (env :: envs)) (hf : env.frame = some L)
    (fl : Heap.FlyingW base (env :: envs) e (.type "ValueError") a0 s.heap) (T : Names base mg mb) (hm : mg x = none) (hv : bootBuiltins x = some (.type "ValueError")) (hn : x ≠ "__name__")
    (hg : env.globals = mainGlobals) (hb : env.builtins = builtinsNs) (hk : env.scope.kind = .function) (hxk : env.kindOf x = some .globalImplicit) (hd : (x == ("__debug__" : Str)) = false)
    (k : ∀ h' E', base.StaysIn h' → s.heap.UpToSlots h' → wpAny (model prog w) (A.mark (some (.ref e))) (execs (b₀ :: suite) env) Q E' { s with heap := h' }) :
    wpAny (model prog w) A (noteFrame (.ref e) env) (fun _ s₂ => wpAny (model prog w) A (setFlight (.ref e) none) (fun _ s₃ => wpAny (model prog w) A (handleBy (.ref e) env (.ExceptHandler (some (.Name x np)) none (b₀ :: suite) pos :: rest)) Q E s₃) E s₂) E s := by
  refine wpAny_looks_onW hfr hf fl fun h₁ held u₁ => ?_
  refine wpAny_landsW (s := { s with heap := h₁ }) held fun h₂ fl₂ u₂ => ?_
  obtain ⟨ob, hob, hoc⟩ := fl₂.there
  refine wpAny_handleBy_builtin (X := "ValueError") (T := "ValueError") (b := true) PySem.F.isExc_ValueError PySem.F.notTuple_ValueError (by rw [isSubtype_type]; kernel_rfl)
    (name_built (s := { s with heap := h₂ }) T fl₂.1 hm hv hn hg hb hk hxk hd ⟨rfl, ⟨ob, hob, hoc⟩, ?_⟩)
  rw [if_pos rfl]
  exact lands_againW (s := { s with heap := h₂ }) fl₂ fun h₃ fl₃ u₃ => k h₃ _ fl₃.1 ((u₁.trans u₂).trans u₃)
end
end Mine

namespace Mine
theorem made_nil {prog : Program} {w : World} {objs : List (Addr × Obj)} {vs : List Value} {cs : List Cont} {h : Heap} (M : Made prog w objs vs cs) (ho : ∀ p ∈ objs, h.get? p.1 = some p.2) (hc : cs.length = 0) : vs = [] := by
  have := (M h ho).length
  exact List.length_eq_zero_iff.mp (by omega)

/-- what the walk of «LCSStr()» hands back -/
def RNew (g : Heap) (L' : Addr) (xt : Str) (lt : Addr) (news : List (Addr × Obj)) (s : Shared) (Q' : Value → Shared → Prop) : Prop :=
  ∀ x d es n h' tk' news', Fr g L' h' (fun y => ([(xt, (.ref lt : Value))] : List (Str × Value)).reverse.lookup y) → News g L' h' news' → (x, instObj 276 d) ∈ news' → (d, dictOf es n) ∈ news' → (∀ p ∈ news, p ∈ news') →
    getL "_ident" es = some none → getL "maximum" es = some none → getL "quick_answer" es = some none → Q' (.ref x) { s with heap := h', toks := tk' }
theorem rnew_end {g h' : Heap} {L' lt x d n tk' : Nat} {xt : Str} {news news' : List (Addr × Obj)} {s : Shared} {Q' : Value → Shared → Prop} {es : List DictEntry} (R : RNew g L' xt lt news s Q')
    (F : Fr g L' h' (fun y => ([(xt, (.ref lt : Value))] : List (Str × Value)).reverse.lookup y)) (N : News g L' h' news') (h1 : (x, instObj 276 d) ∈ news') (h2 : (d, dictOf es n) ∈ news') (h3 : ∀ p ∈ news, p ∈ news')
    (l1 : getL "_ident" es = some none) (l2 : getL "maximum" es = some none) (l3 : getL "quick_answer" es = some none) : Q' (.ref x) { s with heap := h', toks := tk' } := R x d es n h' tk' news' F N h1 h2 h3 l1 l2 l3

section
variable {prog : Program} {w : World} {A₀ A : Around} {E : Value → Shared → Prop} {s : Shared} {env : Env} {base h₀ : Heap} {L : Addr} {m mg mb : Str → Option Value} {news objs : List (Addr × Obj)} {K : Frag} {vs : List Value} {cs : List Cont}
  {p : Program} {loose : List Str} {mean : ExcName → Option Value}

theorem refused_K {name qual xt xv : Str} {ap a1 a2 a3 : Pos} {scope : Scope} {dV kV doc pm cdv ct oc : Value} {an od : Option Addr} {osl : Array (Option Value)} {params : Arguments} {o : Expr} {lt n : Nat} {Q : Value → Shared → Prop}
    {t1 t2 t3 t4 t5 t6 t7 t8 t9 : Pos} {k1 k2 : Nat} {told : Str}
    (B : Below A₀ base [] h₀) (F : Fr h₀ L s.heap m) (X : K.In h₀) (N : News h₀ L s.heap news) (T : Top p loose mean mg mb h₀) (LK : LawKit prog w h₀) (hA : A.frames = some [env]) (hf : env.frame = some L) (hke : env.scope.kind = .function) (hh : A.handled = none)
    (ho : K.lookup 360 = some ⟨oc, od, .func (fnOf name qual params [.Try [.Assign [.Name told t1] (.Call (.Attribute o "quick_answer" t2) [.Starred (.Name xt t3) t4] [] t5) t6]
      [.ExceptHandler (some (.Name xv t7)) none [.Return (some (.Constant (.bool true) k1 t8)) t9] ap] [] [] a1, .Return (some (.Constant (.bool false) k2 a2)) a3] scope dV kV doc pm an cdv ct), osl⟩)
    (hcd : codeIn K cdv qual = true) (hroom : A.depth + 2 < recursionLimit) (hu : A.units + 90 < cLine)
    (hbind : BindsTo s (fnOf name qual params [.Try [.Assign [.Name told t1] (.Call (.Attribute o "quick_answer" t2) [.Starred (.Name xt t3) t4] [] t5) t6]
      [.ExceptHandler (some (.Name xv t7)) none [.Return (some (.Constant (.bool true) k1 t8)) t9] ap] [] [] a1, .Return (some (.Constant (.bool false) k2 a2)) a3] scope dV kV doc pm an cdv ct) ⟨[.ref lt], []⟩ [(xt, .ref lt)])
    (hxt : scope.names.lookup xt = some .local) (hxtd : (xt == ("__debug__" : Str)) = false) (hco : scope.isCoroutine = false) (hgen : scope.isGenerator = false) (hk : scope.kind = .function) (hcell : ∀ x ∈ scope.names, x.2 ≠ .cell)
    (hve : xv = "ValueError") (hvk : scope.names.lookup ("ValueError" : Str) = some .globalImplicit) (hvm : mg "ValueError" = none)
    (hbase : ∀ env, attributeBase o "quick_answer" env (eval o env) = eval o env)
    (hsw : ∀ L', swapsWith (.Call (.Attribute o "quick_answer" t2) [.Starred (.Name xt t3) t4] [] t5) (some (.Name told t1)) t6.line (envOf qual scope L' 360 cdv) = pure false)
    (hqa : ∀ es n, getL "quick_answer" es = some none → Bound K 276 (some (dictOf es n)) "quick_answer" 233)
    (hlt : (lt, W.listOf vs.toArray n) ∈ news) (hM : Made prog w objs vs cs) (hobj : ∀ p ∈ objs, p ∈ news) (hc : cs.length = 0)
    (hnew : ∀ g L' h₁ tk, Fr h₀ L g m → Fr g L' h₁ (fun y => ([(xt, (.ref lt : Value))] : List (Str × Value)).reverse.lookup y) → News g L' h₁ news → Below A base [env] g → K.In g → Top p loose mean mg mb g → ∀ (Q' : Value → Shared → Prop) (E' : Value → Shared → Prop), RNew g L' xt lt news s Q' →
      wpAny (model prog w) (A.deeper (envOf qual scope L' 360 cdv)) (eval o (envOf qual scope L' 360 cdv)) Q' E' { s with heap := h₁, toks := tk })
    (hQ : ∀ h' tk, Fr h₀ L h' m → News h₀ L h' news → Q (.bool true) { s with heap := h', toks := tk }) :
    wpAny (model prog w) A (call (.ref 360) [.ref lt]) Q E s := by
  subst hve
  have hvs : vs = [] := made_nil hM (fun p hp => (N p (hobj p hp)).1) hc
  subst hvs
  refine wpAny_call ?_
  obtain ⟨FG, BG, st, _⟩ := groundX (R := fun _ _ => True) B F N hA hf hke
  refine codeAny_call_def (fd := fnOf name qual params _ scope dV kV doc pm an cdv ct) (binds := [(xt, .ref lt)]) (by omega) ((X.keeps F.keep) _ _ ho) rfl (T.nolimit.keeps F.keep) (codeRec_of (X.keeps F.keep) hcd) rfl hbind hcell (fun y hy => by rw [List.mem_singleton] at hy; subst hy; exact hxt) (fun h₁ hns hk₁ => ?_) hco hgen hk
  show wpAny (model prog w) (A.deeper (envOf qual scope s.heap.objs.size 360 cdv)) (execs _ (envOf qual scope s.heap.objs.size 360 cdv)) _ _ _
  have F₁ : Fr (hideAll s.heap (news.map (·.1))) s.heap.objs.size h₁ (fun y => ([(xt, (.ref lt : Value))] : List (Str × Value)).reverse.lookup y) := ⟨hns, fun b o e => hk₁ b o (of_hideAll _ e), Nat.le_of_eq (hideAll_size _ _)⟩
  have N₁ : News (hideAll s.heap (news.map (·.1))) s.heap.objs.size h₁ news := fun p hp => ⟨hk₁ _ _ (N p hp).1, Nat.ne_of_lt (Heap.lt_size (N p hp).1), hideAll_none _ (List.mem_map_of_mem hp)⟩
  obtain ⟨oL, es, ep, hLg, hLd, hLr⟩ := FG.ns
  generalize hideAll s.heap (news.map (·.1)) = g at *
  refine wpAny_execs_cons (wpAny_Try_except ?_)
  refine wpAny_execs_cons (wpAny_Assign_Name ?_ (hsw _))
  refine methodCall_star' (hbase _) ?_
  refine hnew g _ h₁ _ FG F₁ N₁ BG (X.keeps st) (T.keeps st) _ _ fun x d es' n' h₂ tk₂ news' F₂ N₂ i1 i2 sub l1 l2 l3 => ?_
  have Bd := hqa es' n' l3
  have X₂ : K.In h₂ := (X.keeps st).keeps F₂.keep
  refine get_bound (s := { s with heap := h₂, toks := tk₂ }) X₂ (InstAt.of_news N₂ i1 i2) Bd.g Bd.fo Bd.t ?_
  have k₃ : ∀ b o, h₂.get? b = some o → (h₂.push (methodObj (.ref 233) (.ref x))).get? b = some o := fun b o e => Heap.get?_push_of_some _ e
  have F₃ := F₂.keeps k₃
  have N₃ := N₂.grown k₃
  have hmx : ([(xt, (.ref lt : Value))] : List (Str × Value)).reverse.lookup xt = some (.ref lt) := by simp
  refine callWith_star (P := MethP K h₂.objs.size 233 (.ref x)) (keeps_M Bd.keep) (nm_local (s := { s with heap := h₂.push (methodObj (.ref 233) (.ref x)), toks := tk₂ + 1 }) (env := envOf qual scope s.heap.objs.size 360 cdv) hk hxt hxtd F₃.ns hmx ?_)
  refine star_any (s := { s with heap := h₂.push (methodObj (.ref 233) (.ref x)), toks := tk₂ + 1 }) (N₃ _ (sub _ hlt)).1 rfl rfl (.inl rfl) (by simp) fun h₄ k₄ => ?_
  have hm : h₄.get? h₂.objs.size = some (methodObj (.ref 233) (.ref x)) := k₄ _ _ (Heap.get?_push_size _ rfl)
  have F₄ := F₃.keeps k₄
  have N₄ := N₃.grown k₄
  refine ⟨⟨hm, X₂.keeps fun b o e => k₄ _ _ (k₃ _ _ e)⟩, wpAny_call (ks_codeAny_call_bound hm ?_)⟩
  -- the ground beneath: all but the two frames
  have hLn : h₀.get? L = none := Heap.get?_none_of_le F.above
  have hgL' : g.get? s.heap.objs.size = none := Heap.get?_none_of_le F₁.above
  have apart : ∀ q ∈ news', q.1 ∉ [s.heap.objs.size, L] := fun q hq hm' => by
    simp only [List.mem_cons, List.not_mem_nil, or_false] at hm'
    rcases hm' with r | r
    · exact (N₄ q hq).2.1 r
    · have := (N₄ q hq).2.2; rw [r, hLg] at this; cases this
  have hb₀ : ∀ b ob, h₀.get? b = some ob → b ∉ [s.heap.objs.size, L] := fun b ob e hm' => by
    simp only [List.mem_cons, List.not_mem_nil, or_false] at hm'
    rcases hm' with r | r
    · have := st b ob e; rw [r, hgL'] at this; cases this
    · rw [r, hLn] at e; cases e
  have stb : h₀.StaysIn (TI.gone h₄ [s.heap.objs.size, L]) := fun b ob e => (TI.gone_get (hb₀ b ob e)).trans (F₄.keep b ob (st b ob e))
  have nb : News g s.heap.objs.size (TI.gone h₄ [s.heap.objs.size, L]) news' := fun q hq => ⟨(TI.gone_get (apart q hq)).trans (N₄ q hq).1, (N₄ q hq).2⟩
  obtain ⟨o2, es2, ep2, hL2, hL2d, hL2r⟩ := F₄.ns
  have hL4 : h₄.get? L = some oL := F₄.keep _ _ hLg
  have fs : FS (A.deeper (envOf qual scope s.heap.objs.size 360 cdv)) [envOf qual scope s.heap.objs.size 360 cdv, env] (TI.gone h₄ [s.heap.objs.size, L]) h₄ := by
    refine ⟨by show A.frames.map (envOf qual scope s.heap.objs.size 360 cdv :: ·) = _; rw [hA]; rfl, ⟨by show scope.kind ≠ .module; rw [hk]; decide, ⟨_, o2, rfl, TI.gone_none (.head _), hL2, fun vs q => by rw [hL2d] at q; cases q⟩,
      ⟨by rw [hke]; decide, ⟨L, oL, hf, TI.gone_none (.tail _ (.head _)), hL4, fun vs q => by rw [hLd] at q; cases q⟩, trivial⟩⟩, fun b ob e => (TI.gone_some e).2⟩
  refine LK.lcs0 (TI.gone h₄ [s.heap.objs.size, L]) x _ es' n' stb (InstAt.of_news nb i1 i2) l1 l2 (A.deeper (envOf qual scope s.heap.objs.size 360 cdv)) { s with heap := h₄, toks := tk₂ + 1 } [envOf qual scope s.heap.objs.size 360 cdv, env] _ fs (by show A.depth + 1 + 1 < _; omega) (by show A.units + 3 + 80 < cLine; omega) hh fun h₅ tk₅ e t args fl tup tn up => ?_
  refine caught_fly (s := { s with heap := h₅, toks := tk₅ }) fs.fr rfl fl ⟨T.g.keeps stb, T.b.keeps stb, T.builtins⟩ hvm PyProof.Rows.Boot.«ValueError» (by decide) rfl rfl hk hvk (by decide) fun h₆ E' st₆ u₆ => ?_
  refine wpAny_execs_cons (wpAny_Return_some (wpAny_Constant_bool ?_))
  refine hQ h₆ tk₅ ⟨?_, fun b ob e => st₆ b ob (stb b ob e), F.above⟩ fun q hq => ⟨st₆ _ _ (nb q (sub q hq)).1, (N q hq).2⟩
  exact Heap.UpToSlots.ns (up.trans u₆) (show h₄.Ns L m from ⟨oL, es, ep, hL4, hLd, hLr⟩)
end
end Mine

namespace Mine
theorem allEq_both {cs : List Cont} {n : Int} (h : n = (cs.length : Int)) : allEq cs = (decide (0 < n) && eqB cs) := by
  by_cases h0 : cs.length = 0
  · rw [allEq_zero h0, decide_eq_false (by omega)]; rfl
  · rw [allEq_some h0 rfl, decide_eq_true (by omega)]; rfl

section
variable {prog : Program} {w : World} {A : Around} {E : Value → Shared → Prop} {s : Shared} {env : Env} {h₀ : Heap} {L : Addr} {m : Str → Option Value} {news : List (Addr × Obj)}
theorem both_K {many xe : Str} {p1 p2 p3 p4 p5 : Pos} {k0 : Nat} {mny : Int} {tn : Tok} {b : Bool} {Q : Value → Shared → Prop} (F : Fr h₀ L s.heap m) (V : LawEnv env) (hL : env.locals = L)
    (hmk : env.kindOf many = some .local) (hmd : (many == ("__debug__" : Str)) = false) (hmm : m many = some (.int mny tn))
    (hek : env.kindOf xe = some .local) (hed : (xe == ("__debug__" : Str)) = false) (hem : m xe = some (.bool b))
    (hQ : Q (.bool (decide (0 < mny) && b)) { s with toks := s.toks + 1 }) :
    wpAny (model prog w) A (eval (.BoolOp .And [.Compare (.Name many p1) [.Gt] [.Constant (.int 0) k0 p2] p3, .Name xe p4] p5) env) Q E s := by
  subst hL
  refine wpAny_And2 (wpAny_Compare1 (nm_local V.k hmk hmd F.ns hmm (wpAny_Constant_int (PyProof.Rows.gt_int (wpAny_truthy_bool ?_)))) (hm := by rfl))
  by_cases h : 0 < mny
  · rw [decide_eq_true h, Bool.true_and] at hQ
    rw [decide_eq_true h, if_pos rfl]
    exact nm_local (s := { s with toks := s.toks + 1 }) V.k hek hed F.ns hem hQ
  · rw [decide_eq_false h, Bool.false_and] at hQ
    rw [decide_eq_false h, if_neg (by decide)]
    exact hQ
end
end Mine

namespace Mine
set_option maxRecDepth 100000 in
set_option maxHeartbeats 8000000 in
open_top hd for PySem.Challenge.rw_fq5041_01
end Mine

namespace Mine
theorem names_of {p : Program} {loose : List Str} {mean : ExcName → Option Value} {mg mb : Str → Option Value} {h₀ base : Heap} (T : Top p loose mean mg mb h₀) (st : h₀.StaysIn base) : Names base mg mb := ⟨T.g.keeps st, T.b.keeps st, T.builtins⟩

theorem static_of {K : Frag} {C p f : Addr} {nm : Str} {es : List DictEntry} {n : Nat} {rest : List Value} (hg : plainGet K C nm = true) (hh : hasDictIn K C = true) (ha : findIn K (.ref C) nm = some (some (.ref p)))
    (hgf : specialIn K (.ref p) "__get__" = some (some (.builtin "staticmethod.__get__"))) (hts : takesIn K (.ref p) = some false) (hc : copiedNames.contains nm = false) (hl : getL nm es = some none) (hp : recIn K p "staticmethod" = some (.ref f :: rest))
    (hkeep : keepIn K (.ref f) = true) : Static K C (some (dictOf es n)) nm p f rest :=
  ⟨hg, findObj_fn hh ha hgf hts hc (by show lookIn nm (dictOf es n) = _; rw [lookIn_dict, hl]), hp, hkeep⟩
theorem bound_of {K : Frag} {C f : Addr} {nm : Str} {es : List DictEntry} {n : Nat} (hg : plainGet K C nm = true) (hh : hasDictIn K C = true) (ha : findIn K (.ref C) nm = some (some (.ref f)))
    (hgf : specialIn K (.ref f) "__get__" = some (some (.builtin "function.__get__"))) (hts : takesIn K (.ref f) = some false) (hc : copiedNames.contains nm = false) (hl : getL nm es = some none) (ht : isFn K (.ref f) = true)
    (hkeep : fnIn K f = true) : Bound K C (some (dictOf es n)) nm f :=
  ⟨hg, findObj_fn hh ha hgf hts hc (by show lookIn nm (dictOf es n) = _; rw [lookIn_dict, hl]), ht, hkeep⟩

section
variable {w : World} {p : Program} {loose : List Str} {mean : ExcName → Option Value} {mg mb : Str → Option Value} {h₀ : Heap}

theorem kit_ident (X : (Mine.hd.heap_39 w.params).In h₀) (T : Top p loose mean mg mb h₀) (base : Heap) (st : h₀.StaysIn base) :
    Answers PySem.Challenge.rw_fq5041_01.row.prog w base 70 0 157 [] (fun _ => True) (fun cs v => v = .bool (allEq cs)) := by
  refine ident_answers (names_of T st) (T.nolimit.keeps st) (st _ _ (X 157 _ (by rfl))) (by rfl) ?_ (by rfl) (by rfl) (by rfl) (by decide) ?_ ?_ ?_ ?_ (by rfl) (by rfl) (by rfl) (by rfl) (by rfl) (by rfl) (by rfl) (by rfl) (by rfl) (by rfl) (by decide)
  · exact codeRec_of (X.keeps st) (by kernel_rfl)
  all_goals exact mg_none_of X T.g (by kernel_rfl)

theorem kit_max (X : (Mine.hd.heap_39 w.params).In h₀) (T : Top p loose mean mg mb h₀) (base : Heap) (st : h₀.StaysIn base) :
    Answers PySem.Challenge.rw_fq5041_01.row.prog w base 70 0 112 [] (· ≠ []) (fun cs v => ∃ t, v = .int (mostC cs) t) := by
  refine max_answers (names_of T st) (T.nolimit.keeps st) (st _ _ (X 112 _ (by rfl))) (by rfl) ?_ (by rfl) (by rfl) (by rfl) (by decide) ?_ ?_ ?_ (by rfl) (by rfl) (by rfl) (by rfl) (by rfl)
  · exact codeRec_of (X.keeps st) (by kernel_rfl)
  all_goals exact mg_none_of X T.g (by kernel_rfl)
theorem kit_max0 (X : (Mine.hd.heap_39 w.params).In h₀) (T : Top p loose mean mg mb h₀) (base : Heap) (st : h₀.StaysIn base) :
    Raises PySem.Challenge.rw_fq5041_01.row.prog w base 70 0 112 [] := by
  refine max_raises (names_of T st) (T.nolimit.keeps st) (st _ _ (X 112 _ (by rfl))) (by rfl) ?_ (by rfl) (by rfl) (by rfl) (by decide) ?_ ?_ ?_ (by rfl) (by rfl) (by rfl) (by rfl) (by rfl)
  · exact codeRec_of (X.keeps st) (by kernel_rfl)
  all_goals exact mg_none_of X T.g (by kernel_rfl)
theorem kit_one (X : (Mine.hd.heap_39 w.params).In h₀) (T : Top p loose mean mg mb h₀) (base : Heap) (st : h₀.StaysIn base) (sv : Value) :
    Answers PySem.Challenge.rw_fq5041_01.row.prog w base 70 0 341 [sv] (fun _ => True) (fun _ v => ∃ t, v = .int 1 t) := by
  refine one_answers (T.nolimit.keeps st) (st _ _ (X 341 _ (by rfl))) (by rfl) ?_ (by rfl) (by rfl) (by rfl) (by decide) (by rfl) (by rfl)
  exact codeRec_of (X.keeps st) (by kernel_rfl)

theorem kit_lev (X : (Mine.hd.heap_39 w.params).In h₀) (T : Top p loose mean mg mb h₀) (base : Heap) (x : Addr) (ox : Obj) (es : List DictEntry) (n : Nat) (st : h₀.StaysIn base) (I : InstAt base x ox 317 (some (dictOf es n)))
    (l1 : getL "_ident" es = some none) (l2 : getL "maximum" es = some none) : Answers PySem.Challenge.rw_fq5041_01.row.prog w base 80 1 150 [.ref x] (fun _ => True) (fun cs v => IsRes (quickB cs) v) := by
  refine quickB_answers (K := Mine.hd.heap_39 w.params) (names_of T st) (T.nolimit.keeps st) ⟨X.keeps st, I⟩ (st _ _ (X 150 _ (by rfl))) (by rfl) ?_ (by rfl) (by rfl) (by rfl) (by decide) ?_ ?_ (by rfl) (by rfl) (by rfl) (by rfl) (by rfl) (by decide)
    (static_of (p := 159) (f := 157) (rest := [.bool false]) (by kernel_rfl) (by kernel_rfl) (by kernel_rfl) (by kernel_rfl) (by kernel_rfl) (by kernel_rfl) l1 (by kernel_rfl) (by kernel_rfl))
    (static_of (p := 114) (f := 112) (rest := [.bool false]) (by kernel_rfl) (by kernel_rfl) (by kernel_rfl) (by kernel_rfl) (by kernel_rfl) (by kernel_rfl) l2 (by kernel_rfl) (by kernel_rfl))
    (kit_ident X T base st) (kit_max X T base st)
  · exact codeRec_of (X.keeps st) (by kernel_rfl)
  all_goals exact mg_none_of X T.g (by kernel_rfl)

theorem kit_lcs (X : (Mine.hd.heap_39 w.params).In h₀) (T : Top p loose mean mg mb h₀) (base : Heap) (x : Addr) (ox : Obj) (es : List DictEntry) (n : Nat) (st : h₀.StaysIn base) (I : InstAt base x ox 276 (some (dictOf es n)))
    (l1 : getL "_ident" es = some none) (l2 : getL "maximum" es = some none) : Answers PySem.Challenge.rw_fq5041_01.row.prog w base 80 1 233 [.ref x] (· ≠ []) (fun cs v => IsRes (quickS mostC cs) v) := by
  have S2 : Static (Mine.hd.heap_39 w.params) 276 (some (dictOf es n)) "maximum" 114 112 [.bool false] :=
    static_of (by kernel_rfl) (by kernel_rfl) (by kernel_rfl) (by kernel_rfl) (by kernel_rfl) (by kernel_rfl) l2 (by kernel_rfl) (by kernel_rfl)
  refine quickS_answers (K := Mine.hd.heap_39 w.params) (names_of T st) (T.nolimit.keeps st) ⟨X.keeps st, I⟩ (st _ _ (X 233 _ (by rfl))) (by rfl) ?_ (by rfl) (by rfl) (by rfl) (by decide) ?_ ?_ (by rfl) (by rfl) (by rfl) (by rfl) (by rfl) (by decide)
    (static_of (p := 159) (f := 157) (rest := [.bool false]) (by kernel_rfl) (by kernel_rfl) (by kernel_rfl) (by kernel_rfl) (by kernel_rfl) (by kernel_rfl) l1 (by kernel_rfl) (by kernel_rfl))
    (kit_ident X T base st) (fun E hd hu hh hp h4 hok hk hs hms hx hmx => ev_static (res := fun cs v => ∃ t, v = .int (mostC cs) t) (kit_max X T base st) E hd hu hh hp h4 hok hk hs (by decide) hms hx (by decide) hmx (X.keeps st) I S2.g S2.fo S2.p S2.keep)
  · exact codeRec_of (X.keeps st) (by kernel_rfl)
  all_goals exact mg_none_of X T.g (by kernel_rfl)

theorem kit_jac (X : (Mine.hd.heap_39 w.params).In h₀) (T : Top p loose mean mg mb h₀) (base : Heap) (x : Addr) (ox : Obj) (es : List DictEntry) (n : Nat) (st : h₀.StaysIn base) (I : InstAt base x ox 351 (some (dictOf es n)))
    (l1 : getL "_ident" es = some none) (l2 : getL "maximum" es = some none) : Answers PySem.Challenge.rw_fq5041_01.row.prog w base 80 1 233 [.ref x] (fun _ => True) (fun cs v => IsRes (quickS (fun _ => 1) cs) v) := by
  have S2 : Bound (Mine.hd.heap_39 w.params) 351 (some (dictOf es n)) "maximum" 341 :=
    bound_of (by kernel_rfl) (by kernel_rfl) (by kernel_rfl) (by kernel_rfl) (by kernel_rfl) (by kernel_rfl) l2 (by kernel_rfl) (by kernel_rfl)
  refine quickS_answers (K := Mine.hd.heap_39 w.params) (names_of T st) (T.nolimit.keeps st) ⟨X.keeps st, I⟩ (st _ _ (X 233 _ (by rfl))) (by rfl) ?_ (by rfl) (by rfl) (by rfl) (by decide) ?_ ?_ (by rfl) (by rfl) (by rfl) (by rfl) (by rfl) (by decide)
    (static_of (p := 159) (f := 157) (rest := [.bool false]) (by kernel_rfl) (by kernel_rfl) (by kernel_rfl) (by kernel_rfl) (by kernel_rfl) (by kernel_rfl) l1 (by kernel_rfl) (by kernel_rfl))
    (kit_ident X T base st) (fun E hd hu hh hp h4 hok hk hs hms hx hmx => ev_bound (res := fun _ v => ∃ t, v = .int 1 t) (kit_one X T base st (.ref x)) E hd hu hh hp h4 trivial hk hs (by decide) hms hx (by decide) hmx (X.keeps st) I S2.g S2.fo S2.t S2.keep)
  · exact codeRec_of (X.keeps st) (by kernel_rfl)
  all_goals exact mg_none_of X T.g (by kernel_rfl)

theorem kit_lcs0 (X : (Mine.hd.heap_39 w.params).In h₀) (T : Top p loose mean mg mb h₀) (base : Heap) (x : Addr) (ox : Obj) (es : List DictEntry) (n : Nat) (st : h₀.StaysIn base) (I : InstAt base x ox 276 (some (dictOf es n)))
    (_l1 : getL "_ident" es = some none) (l2 : getL "maximum" es = some none) : Raises PySem.Challenge.rw_fq5041_01.row.prog w base 80 1 233 [.ref x] := by
  refine quick_raises (K := Mine.hd.heap_39 w.params) (T.nolimit.keeps st) ⟨X.keeps st, I⟩ (st _ _ (X 233 _ (by rfl))) (by rfl) ?_ (by rfl) (by rfl) (by rfl) (by decide) (by rfl) (by rfl) (by rfl) (by decide)
    (static_of (p := 114) (f := 112) (rest := [.bool false]) (by kernel_rfl) (by kernel_rfl) (by kernel_rfl) (by kernel_rfl) (by kernel_rfl) (by kernel_rfl) l2 (by kernel_rfl) (by kernel_rfl)) (kit_max0 X T base st)
  exact codeRec_of (X.keeps st) (by kernel_rfl)

theorem kit_qa (es : List DictEntry) (n : Nat) (l : getL "quick_answer" es = some none) : Bound (Mine.hd.heap_39 w.params) 276 (some (dictOf es n)) "quick_answer" 233 :=
  bound_of (by kernel_rfl) (by kernel_rfl) (by kernel_rfl) (by kernel_rfl) (by kernel_rfl) (by kernel_rfl) l (by kernel_rfl) (by kernel_rfl)
theorem law_kit (X : (Mine.hd.heap_39 w.params).In h₀) (T : Top p loose mean mg mb h₀) : LawKit PySem.Challenge.rw_fq5041_01.row.prog w h₀ :=
  ⟨kit_ident X T, kit_lev X T, kit_jac X T, kit_lcs X T, kit_lcs0 X T⟩
end
end Mine

-- THE WALK
local macro_rules | `(tactic| walk_at "eval IfExp") => `(tactic| (k_here; (with_reducible show wpAny _ _ (eval (Expr.IfExp (Expr.Name _ _) (Expr.Subscript (Expr.Name _ _) (Expr.Constant (Const.int 0) _ _) _) (Expr.Constant (Const.int 0) _ _) _) _) _ _ _); k_dflt (refine' Mine.head_K ?F ?N ⟨rfl, rfl, rfl⟩ ?a ?b ?c ?d ?e ?l ?i ?x ?s ?g ?_; (case F => k_asm); (case N => k_asm); (case a => rfl); (case b => decide); (case c => rfl); (case d => k_mem); (case e => assumption); (case l => assumption); (case i => assumption); (case x => omega); (case s => intro _ _; with_unfolding_all rfl); (case g => intro _ _; with_unfolding_all rfl)); intro i' t' tk'))
local macro_rules | `(tactic| walk_at "execs cons") => `(tactic| (k_here; (first | with_reducible show wpAny _ _ (execs (Stmt.Assign [Expr.Name ("pool" : Str) _] _ _ :: _) _) _ _ _ | (dsimp only; with_reducible show wpAny _ _ (execs (Stmt.Assign [Expr.Name ("pool" : Str) _] _ _ :: _) _) _ _ _)); refine Mine.gen_pos (by dsimp only; omega) ?_; intro tk' htk'; refine wpAny_execs_cons ?_))
local macro_rules | `(tactic| walk_at "eval ListComp") => `(tactic| (k_here; k_dflt (refine' Mine.picked_K ?F ?N rfl (Mine.names_K ?T) ⟨rfl, rfl, rfl⟩ rfl ⟨?b1, ?b2, ?b3, ?b4, ?b5, ?b6⟩ ?k1 ?k2 ?k3 (Mine.fmod_in _ ?z) ?m1 ?m2 ?k4 ?k5 ?k6 ?k7 ?k8 ?d ?e ?l ?i ?x ?s1 ?s2 ?s3 ?_; (case F => k_asm); (case N => k_asm); (case T => assumption); (case b1 => rfl); (case b2 => decide); (case b3 => rfl); (case b4 => decide); (case b5 => rfl); (case b6 => decide); (case k1 => rfl); (case k2 => decide); (case k3 => rfl); (case z => decide); (case m1 => exact mg_none_of (by assumption) (Top.g (by assumption)) (by k_is)); (case m2 => exact mg_none_of (by assumption) (Top.g (by assumption)) (by k_is)); (case k4 => rfl); (case k5 => exact fun _ => rfl); (case k6 => exact fun _ => rfl); (case k7 => decide); (case k8 => rfl); (case d => k_mem); (case e => assumption); (case l => assumption); (case i => assumption); (case x => omega); (case s1 => exact fun _ => rfl); (case s2 => intro _ _; with_unfolding_all rfl); (case s3 => intro _ _; with_unfolding_all rfl)); intro D' h' tk' n' ys' F' N' al' el' il'))
local macro_rules | `(tactic| walk_at "execs cons") => `(tactic| (k_here; (with_reducible rename Mine.AllN _ _ => alP'); (first | with_reducible show wpAny _ _ (execs (Stmt.If (Expr.Compare (Expr.Name ("way" : Str) _) _ _ _) _ _ _ :: _) _) _ _ _ | (dsimp only; with_reducible show wpAny _ _ (execs (Stmt.If (Expr.Compare (Expr.Name ("way" : Str) _) _ _ _) _ _ _ :: _) _) _ _ _)); k_dflt (refine wpAny_execs_cons ?_; refine' Mine.things_K ?F ?N rfl ⟨rfl, rfl, rfl⟩ rfl ⟨(by rfl), (by decide), (by rfl), (by decide), (by rfl), (by decide)⟩ ⟨(by rfl), (by decide), (by rfl), (by decide), (by rfl), (by decide)⟩ ⟨(by rfl), (by decide), (by rfl), (by decide), (by rfl), (by decide)⟩ ?wk ?wd ?wm ?pk ?pd ?pc ?pm ?pp ?pl ?pi ?py ?od ?om ?oo ?ol ?ot ?fd ?fm ?fo ?fl ?f7 ?ff ?o0 ?o1 ?o2 ?c0 ?c1 ?c2 ?k0 ?j0 ?l1 ?i1 ?hp ?hs ?s0 ?t0 ?s1 ?t1 ?s2 ?hg ?w0 ?w1 ?w2 ?_; (case F => k_asm); (case N => k_asm); (case wk => rfl); (case wd => decide); (case wm => rfl); (case pk => rfl); (case pd => decide); (case pc => rfl); (case o0 => exact fun _ => rfl); (case o1 => exact fun _ => rfl); (case o2 => exact fun _ => rfl); (case c0 => rfl); (case c1 => rfl); (case c2 => rfl); (case k0 => exact fun _ => rfl); (case j0 => rfl); (case l1 => exact fun _ => rfl); (case i1 => rfl); (case pm => k_mem); (case pp => assumption); (case pl => k_mem); (case pi => assumption); (case py => omega); (case od => decide); (case om => k_mem); (case oo => assumption); (case ol => k_mem); (case ot => rfl); (case fd => decide); (case fm => k_mem); (case fo => assumption); (case fl => k_mem); (case f7 => rfl); (case ff => exact Mine.full_ok); (case hp => exact ⟨Mine.pool_ok (Nat.ne_of_gt (by assumption)) (Nat.succ_ne_zero _) (Nat.succ_ne_zero _) (Nat.succ_ne_zero _) (Nat.succ_ne_zero _), Mine.mem5 (by k_mem) (by k_mem) (by k_mem) (by k_mem) (by k_mem)⟩); (case hs => exact fun _ _ => rfl); (case s0 => intro _ _; with_unfolding_all rfl); (case t0 => intro _ _; with_unfolding_all rfl); (case s1 => intro _ _; with_unfolding_all rfl); (case t1 => intro _ _; with_unfolding_all rfl); (case s2 => intro _ _; with_unfolding_all rfl); (case hg => intro _ _ _ _; rfl); (case w0 => rfl); (case w1 => rfl); (case w2 => rfl)); intro D' h' tk' n' vs' cs' F' N' al' ec' e4' M'; (have bo' := Mine.Both.mk alP' al'); clear alP' al'))
local macro_rules | `(tactic| walk_at "eval Compare") => `(tactic| (k_here; (with_reducible show wpAny _ _ (eval (Expr.Compare (Expr.ListComp _ _ _ _) [CmpOp.Eq] [Expr.List [] _] _) _) _ _ _); k_dflt (refine' Mine.equal_K ?F ?N ?u rfl ⟨rfl, rfl, rfl⟩ ⟨(by rfl), (by decide), (by rfl), (by decide), (by rfl), (by decide)⟩ ?a ?b ?c ?d ?e ?l ?k1 ?k2 ?o ?M ?h4 ?s1 ?s2 ?s3 ?_; (case F => k_asm); (case N => k_asm); (case u => first | decide | units_room | k_room); (case a => rfl); (case b => decide); (case c => rfl); (case d => k_mem); (case e => assumption); (case l => k_mem); (case k1 => exact fun _ => rfl); (case k2 => rfl); (case M => assumption); (case o => exact Mine.mem5 (by k_mem) (by k_mem) (by k_mem) (by k_mem) (by k_mem)); (case h4 => assumption); (case s1 => exact fun _ => rfl); (case s2 => intro _ _; with_unfolding_all rfl); (case s3 => intro _ _; rfl)); intro h' tk' F' N'))
local macro_rules | `(tactic| walk_at "eval Compare") => `(tactic| (k_here; (with_reducible show wpAny _ _ (eval (Expr.Compare (Expr.ListComp _ _ _ _) [CmpOp.NotEq] [Expr.List [] _] _) _) _ _ _); k_dflt (refine' Mine.empty_K ?F ?N (Mine.names_K ?T) ?u rfl ⟨rfl, rfl, rfl⟩ ⟨(by rfl), (by decide), (by rfl), (by decide), (by rfl), (by decide)⟩ ?a ?b ?c ?d ?e ?l ?m1 ?k1 ?o ?M ?h4 ?s1 ?_; (case F => k_asm); (case N => k_asm); (case T => assumption); (case u => first | decide | units_room | k_room); (case a => rfl); (case b => decide); (case c => rfl); (case d => k_mem); (case e => assumption); (case l => k_mem); (case m1 => exact mg_none_of (by assumption) (Top.g (by assumption)) (by k_is)); (case k1 => exact fun _ => rfl); (case M => assumption); (case o => exact Mine.mem5 (by k_mem) (by k_mem) (by k_mem) (by k_mem) (by k_mem)); (case h4 => assumption); (case s1 => exact fun _ => rfl)); intro h' tk' F' N'))
local macro_rules | `(tactic| walk_at "eval IfExp") => `(tactic| (k_here; (with_reducible show wpAny _ _ (eval (Expr.IfExp (Expr.Compare _ _ _ _) (Expr.Call _ _ _ _) _ _) _) _ _ _); k_dflt (refine' Mine.most_K ?F ?N (Mine.names_K ?T) rfl ⟨rfl, rfl, rfl⟩ rfl ⟨(by rfl), (by decide), (by rfl), (by decide), (by rfl), (by decide)⟩ ?a ?b ?c ?d ?e ?l ?k3 ?k4 ?k5 ?y ?m1 ?m2 ?k1 ?k2 ?o ?M ?h4 ?s1 ?_; (case F => k_asm); (case N => k_asm); (case T => assumption); (case a => rfl); (case b => decide); (case c => rfl); (case d => k_mem); (case e => assumption); (case l => k_mem); (case M => assumption); (case k3 => rfl); (case k4 => decide); (case k5 => rfl); (case y => omega); (case m1 => exact mg_none_of (by assumption) (Top.g (by assumption)) (by k_is)); (case m2 => exact mg_none_of (by assumption) (Top.g (by assumption)) (by k_is)); (case k1 => exact fun _ => rfl); (case k2 => rfl); (case o => exact Mine.mem5 (by k_mem) (by k_mem) (by k_mem) (by k_mem) (by k_mem)); (case h4 => assumption); (case s1 => exact fun _ => rfl)); intro h' tk' t' F' N'))
local macro_rules | `(tactic| walk_at "eval Call Attribute") => `(tactic| (k_here; (with_reducible show wpAny _ _ (eval (Expr.Call (Expr.Attribute _ _ _) [Expr.Starred _ _] _ _) _) _ _ _); k_dflt (refine Mine.methodCall_star' (by rfl) ?_)))
local macro_rules | `(tactic| walk_at "getAttr ref") => `(tactic| (k_here; (with_reducible show wpAny _ _ (getAttr (Value.ref _) ("_ident" : Str) _) _ _ _); k_dflt (refine' Mine.get_static_K ?k1 ?k2 ?k3 ?k4 ?k5 ?k6 ?k7 ?k8 ?k9 ?k10 ?k11 ?_; (case k3 => k_inst); (case k1 => k_asm); (case k2 => k_asm); (case k4 => k_is); (case k5 => k_is); (case k6 => k_is); (case k7 => k_is); (case k8 => k_is); (case k9 => decide +kernel); (case k10 => k_get); (case k11 => k_is); k_whole)))
local macro_rules | `(tactic| walk_at "callWith ref") => `(tactic| (k_here; (with_reducible show wpAny _ _ (callWith _ (Value.ref 157) _ (backTo _ (starEach [Expr.Starred _ _] _)) []) _ _ _); k_dflt (refine' Mine.law_ident ?F ?N ?X ?K ?A rfl ⟨rfl, rfl, rfl⟩ ?r ?u rfl ?a ?b ?c ?d ?e ?g ?l ?P ?o ?h4 ?z ?_; (case F => k_asm); (case N => k_asm); (case X => k_asm); (case K => assumption); (case A => rfl); (case r => first | decide | room | (simp only [depth_deeper, depth_caller]; decide)); (case u => first | decide | units_room | k_room); (case a => k_is); (case b => rfl); (case c => decide); (case d => rfl); (case e => k_mem); (case g => assumption); (case l => k_mem); (case P => assumption); (case o => exact Mine.mem5 (by k_mem) (by k_mem) (by k_mem) (by k_mem) (by k_mem)); (case h4 => assumption); (case z => rfl)); intro h' tk' F' N'))
local macro_rules | `(tactic| walk_at "callWith ref") => `(tactic| (k_here; (with_reducible show wpAny _ _ (callWith _ (Value.ref _) _ (backTo _ (starEach [Expr.Starred _ _] _)) []) _ _ _); k_dflt (first | (refine' Mine.law_callM ?F ?N ?X ?A rfl ⟨rfl, rfl, rfl⟩ ?r ?u rfl ?a ?q (fun base st nb => Mine.LawKit.lev ?K base _ _ _ _ st (InstAt.of_news nb ?i1 ?i2) ?g1 ?g2) ?b ?c ?d ?e ?g ?l ?o ?P ?h4 trivial ?_; (case F => k_asm); (case N => k_asm); (case X => k_asm); (case K => assumption); (case A => rfl); (case r => first | decide | room | (simp only [depth_deeper, depth_caller]; decide)); (case u => first | decide | units_room | k_room); (case q => k_mem); (case i1 => k_mem); (case i2 => k_mem); (case g1 => k_get); (case g2 => k_get); (case a => k_is); (case b => rfl); (case c => decide); (case d => rfl); (case e => k_mem); (case g => assumption); (case l => k_mem); (case P => assumption); (case o => exact Mine.mem5 (by k_mem) (by k_mem) (by k_mem) (by k_mem) (by k_mem)); (case h4 => assumption); intro h' tk' v' hv' F' N') | (refine' Mine.law_callM ?F ?N ?X ?A rfl ⟨rfl, rfl, rfl⟩ ?r ?u rfl ?a ?q (fun base st nb => Mine.LawKit.jac ?K base _ _ _ _ st (InstAt.of_news nb ?i1 ?i2) ?g1 ?g2) ?b ?c ?d ?e ?g ?l ?o ?P ?h4 trivial ?_; (case F => k_asm); (case N => k_asm); (case X => k_asm); (case K => assumption); (case A => rfl); (case r => first | decide | room | (simp only [depth_deeper, depth_caller]; decide)); (case u => first | decide | units_room | k_room); (case q => k_mem); (case i1 => k_mem); (case i2 => k_mem); (case g1 => k_get); (case g2 => k_get); (case a => k_is); (case b => rfl); (case c => decide); (case d => rfl); (case e => k_mem); (case g => assumption); (case l => k_mem); (case P => assumption); (case o => exact Mine.mem5 (by k_mem) (by k_mem) (by k_mem) (by k_mem) (by k_mem)); (case h4 => assumption); intro h' tk' v' hv' F' N') | (refine' Mine.law_callM ?F ?N ?X ?A rfl ⟨rfl, rfl, rfl⟩ ?r ?u rfl ?a ?q (fun base st nb => Mine.LawKit.lcs ?K base _ _ _ _ st (InstAt.of_news nb ?i1 ?i2) ?g1 ?g2) ?b ?c ?d ?e ?g ?l ?o ?P ?h4 ?z ?_; (case F => k_asm); (case N => k_asm); (case X => k_asm); (case K => assumption); (case A => rfl); (case r => first | decide | room | (simp only [depth_deeper, depth_caller]; decide)); (case u => first | decide | units_room | k_room); (case q => k_mem); (case i1 => k_mem); (case i2 => k_mem); (case g1 => k_get); (case g2 => k_get); (case a => k_is); (case b => rfl); (case c => decide); (case d => rfl); (case e => k_mem); (case g => assumption); (case l => k_mem); (case P => assumption); (case o => exact Mine.mem5 (by k_mem) (by k_mem) (by k_mem) (by k_mem) (by k_mem)); (case h4 => assumption); (case z => (intro q; have q2 := congrArg List.length q; simp only [List.length_nil] at q2; omega)); intro h' tk' v' hv' F' N'))))
local macro_rules | `(tactic| walk_at "storeName") => `(tactic| (k_here; (with_reducible rename Mine.AllN _ _ => alX'); (have alY' := alX'); (simp only [Mine.AllN, and_true] at alY'); k_dflt (refine' storeX_C ?F ?N ?c ?U ?d ?_ ?a ?b; (case a => rfl); (case b => rfl); (case F => k_asm); (case N => k_asm); (case c => rfl); (case U => k_updF); (case d => k_asm)); clear alY'; intro h' o' F' N' d'; (try dsimp only at N'); (try k_sweep)))
local macro_rules | `(tactic| walk_at "storeName") => `(tactic| (k_here; (with_reducible rename Mine.Both _ _ => alY'); (simp only [Mine.Both, Mine.AllN, and_true] at alY'); k_dflt (refine' storeX_C ?F ?N ?c ?U ?d ?_ ?a ?b; (case a => rfl); (case b => rfl); (case F => k_asm); (case N => k_asm); (case c => rfl); (case U => k_updF); (case d => k_asm)); clear alY'; intro h' o' F' N' d'; (try dsimp only at N'); (try k_sweep)))
local macro_rules | `(tactic| walk_at "execs cons") => `(tactic| (k_here; (first | with_reducible show wpAny _ _ (execs (Stmt.If (Expr.BoolOp _ [Expr.Compare (Expr.Name ("many" : Str) _) _ _ _, Expr.Name _ _] _) _ _ _ :: _) _) _ _ _ | (dsimp only; with_reducible show wpAny _ _ (execs (Stmt.If (Expr.BoolOp _ [Expr.Compare (Expr.Name ("many" : Str) _) _ _ _, Expr.Name _ _] _) _ _ _ :: _) _) _ _ _)); k_dflt (refine' Mine.mid_step ?F ?N ?e ?_ (fun far' near' whole' h' tk' F' N' r1' r2' r3' => ?_); (case F => k_asm); (case N => k_asm); (case e => assumption))))
local macro_rules | `(tactic| walk_at "compareOp NotEq") => `(tactic| (k_here; k_dflt (first | (refine' Mine.res_ne ?a ?b ?u ?_; (case a => assumption); (case b => assumption); (case u => first | decide | units_room | k_room)) | (refine' Mine.bool_ne ?a ?u ?_; (case a => exact Mine.allEq_both (by omega)); (case u => first | decide | units_room | k_room)))))
local macro_rules | `(tactic| walk_at "compareOp Eq") => `(tactic| (k_here; k_dflt (refine' Mine.res_eq ?a ?b ?u ?_; (case a => assumption); (case b => assumption); (case u => first | decide | units_room | k_room))))
local macro_rules | `(tactic| walk_at "compareOp NotEq bool bool") => `(tactic| (k_here; k_dflt (refine' Mine.bool_ne ?a ?u ?_; (case a => exact Mine.allEq_both (by omega)); (case u => first | decide | units_room | k_room))))
local macro_rules | `(tactic| walk_at "call ref") => `(tactic| (k_here; (with_reducible show wpAny _ _ (call (Value.ref 360) [Value.ref _]) _ _ _); k_dflt (refine' Mine.refused_K ?B ?F ?X ?N ?T ?LK rfl rfl rfl rfl ?ho ?hcd ?room ?u ?bind ?x1 ?x2 ?c1 ?c2 ?c3 ?c4 rfl ?vk ?vm ?base ?sw ?qa ?lt ?M ?obj ?hc ?_ ?_; (case B => assumption); (case F => k_asm); (case X => k_asm); (case N => k_asm); (case T => assumption); (case LK => assumption); (case ho => k_is); (case hcd => k_is); (case room => first | decide | room | (simp only [depth_deeper, depth_caller]; decide)); (case u => first | decide | units_room | k_room); (case bind => exact BindsTo.of_eq rfl); (case x1 => rfl); (case x2 => decide); (case c1 => rfl); (case c2 => rfl); (case c3 => rfl); (case c4 => decide); (case vk => rfl); (case vm => exact mg_none_of (by assumption) (Top.g (by assumption)) (by k_is)); (case base => exact fun _ => rfl); (case sw => exact fun _ => rfl); (case qa => exact Mine.kit_qa); (case lt => k_mem); (case M => assumption); (case obj => exact Mine.mem5 (by k_mem) (by k_mem) (by k_mem) (by k_mem) (by k_mem)); (case hc => omega)); rotate_left; intro h' tk' F' N'; rotate_right; intro g' L' h' tk' FG' F' N' B' X' T' Q' E' hq'))
local macro_rules | `(tactic| walk_at "eval BoolOp") => `(tactic| (k_here; (with_reducible show wpAny _ _ (eval (Expr.BoolOp BoolOp.And [Expr.Compare (Expr.Name ("many" : Str) _) _ _ _, Expr.Name _ _] _) _) _ _ _); k_dflt (refine' Mine.both_K ?F ⟨rfl, rfl, rfl⟩ rfl ?a ?b ?c ?d ?e ?f ?_; (case F => k_asm); (case a => rfl); (case b => decide); (case c => rfl); (case d => rfl); (case e => decide); (case f => rfl))))
set_option maxRecDepth 100000 in
set_option maxHeartbeats 8000000 in
theorem PySem.Challenge.cw_fq5041_01_holds : PySem.Challenge.rw_fq5041_01.Holds := by
  refine Mine.hd ?_
  k_go0
  all_goals try k_fold
  have LK := Mine.law_kit (by assumption) (by assumption)
  k_steps
  all_goals (first | (exact ⟨rfl, _, _, _, _, _, rfl, (by first | assumption | exact Mine.fr_swap (by assumption)), (by first | exact Mine.news_tail (by assumption) | assumption), (by first | exact Mine.isB_short (by omega) | exact Mine.isB_eq (by assumption) | exact Mine.isB_empty (by assumption) (by assumption) (by omega) | exact Mine.isB_none (by assumption) (by assumption) (by omega)), (by first | exact Mine.isS_short (by omega) | exact Mine.isS_eq (by assumption) | exact Mine.isS_empty (by assumption) (by assumption) (by omega) | exact Mine.isS_none (by assumption) (by assumption) (by omega)), (by first | exact Mine.isS_short (by omega) | exact Mine.isS_eq (by assumption) | exact Mine.isS_empty (by assumption) (by assumption) (by omega) | exact Mine.isS_none (by assumption) (by assumption) (by omega))⟩) | (exact Mine.rnew_end (by assumption) (by assumption) (by assumption) (by k_mem) (by k_mem) (fun p hp => List.mem_cons_of_mem _ (List.mem_cons_of_mem _ hp)) (by k_get) (by k_get) (by k_get)))
