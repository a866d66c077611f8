import PyProof.Rows.All
import Wide.All
import OpenK.AllK
import Wide.FinOn
import Lean
import PySem.Challenge.RW_bb0035_01
set_option Elab.async false
set_option rowWalk.seconds 0
section
set_option maxRecDepth 100000
namespace Mine
open PySem PySem.W PySem.Spec PySem.Calls PyProof.Rows PySem.SeqAt

/-- the keys that the law asks for -/
inductive Key where
  | int (i : Int)
  | str (x : PySem.Str)
  | bytes (b : List UInt8)
  | tup (is : List Int)
  deriving DecidableEq

def hashK (w : World) : Key → Int
  | .int i => hashInt i
  | .str x => hashStr w x
  | .bytes b => hashW w.params (.bytes b)
  | .tup is => reduceHash (Builtin.Tuple.tupleHashOf (is.map hashInt))

inductive IsKey (prog : Program) (w : World) (h : Heap) : Key → Value → Prop
  | int (i : Int) (t : Tok) : IsKey prog w h (.int i) (.int i t)
  | str (x : PySem.Str) (t : Tok) : IsKey prog w h (.str x) (.str x t)
  | bytes (b : List UInt8) (t : Tok) : IsKey prog w h (.bytes b) (.bytes b.toArray t)
  | tup {is : List Int} {a : Addr} : IsTupleKey (intKind prog w) h is a → IsKey prog w h (.tup is) (.ref a)

theorem IsKey.mono {prog : Program} {w : World} {h h' : Heap} {k : Key} {v : Value} (x : IsKey prog w h k v) (hk : ∀ a o, v = .ref a → h.get? a = some o → o.cls = .type "tuple" → h'.get? a = some o) : IsKey prog w h' k v := by
  cases x with
  | int i t => exact .int i t
  | str x t => exact .str x t
  | bytes b t => exact .bytes b t
  | tup y => obtain ⟨o, items, n, ho, hc, r⟩ := y; exact .tup ⟨o, items, n, hk _ _ rfl ho hc, hc, r⟩

theorem IsKey.inj {prog : Program} {w : World} {h : Heap} {a b : Key} {v : Value} (x : IsKey prog w h a v) (y : IsKey prog w h b v) : a = b := by
  cases x with
  | int i t => cases y; rfl
  | str x t => cases y; rfl
  | bytes c t => generalize hv : Value.bytes c.toArray t = v at y; cases y <;> cases hv; rfl
  | tup z => cases y with | tup z' => rw [IsTupleKey.inj z z']

theorem IsTupleKey.isTuple {prog : Program} {w : World} {h : Heap} {is : List Int} {a : Addr} (x : IsTupleKey (intKind prog w) h is a) : ∃ items, h.IsTuple a items := by
  obtain ⟨o, items, n, ho, hc, hd, _⟩ := x
  exact ⟨items, o, ho, hc, n, hd⟩

section
variable {prog : Program} {w : World} {A : Around} {E : Value → Shared → Prop} {s : Shared}

theorem strHash_ok {x : PySem.Str} {Q : Int → Shared → Prop} (h : Q (hashStr w x) s) : wpAny (model prog w) A (strHash x) Q E s := by
  unfold strHash
  exact wpAny_bind (wpAny_askSetting (wpAny_pure h))

theorem pyHash_key {k : Key} {v : Value} {Q : Int → Shared → Prop} (hu : A.units < cLine) (hk : IsKey prog w s.heap k v) (h : ∀ tk, Q (hashK w k) { s with toks := tk }) : wpAny (model prog w) A (pyHash v) Q E s := by
  cases hk with
  | int i t => exact wpAny_pyHash_int (h _)
  | str x t => exact wpAny_pyHash_str (h _)
  | bytes b t => exact (bytesKind prog w).pyHash (k := b) (by simp [bytesKind, isBytes]) (h _)
  | tup y => exact wpAny_pyHash_tuple hu y (h _)

theorem bytes_declines {b : Array UInt8} {t : Tok} {v : Value} {T : String} (hT : ∀ s : Shared, s.TypeIs v T) (hs : isSubtype (.type T) (.type "bytes") = pure false) :
    Gives (Builtin.«bytes.__eq__» ⟨[.bytes b t, v], []⟩) (.val .notImplemented) := by
  refine .of_wp fun M A E s Q hq => ?_
  show wpAny M A (isInstance v (.type "bytes") >>= fun r => _) _ E s
  refine wpAny_bind (wpAny_isInstance (hT s) hs ?_)
  exact wpAny_bind (wpAny_rule (wpAny_pure ⟨_, rfl, hq⟩))
theorem sub_int_bytes : isSubtype (.type "int") (.type "bytes") = pure false := by rw [isSubtype_type]; kernel_rfl
theorem sub_str_bytes : isSubtype (.type "str") (.type "bytes") = pure false := by rw [isSubtype_type]; kernel_rfl
theorem sub_tuple_bytes : isSubtype (.type "tuple") (.type "bytes") = pure false := by rw [isSubtype_type]; kernel_rfl
theorem sub_bytes_int : isSubtype (.type "bytes") (.type "int") = pure false := by rw [isSubtype_type]; kernel_rfl
theorem sub_bytes_str : isSubtype (.type "bytes") (.type "str") = pure false := by rw [isSubtype_type]; kernel_rfl
theorem sub_bytes_tuple : isSubtype (.type "bytes") (.type "tuple") = pure false := by rw [isSubtype_type]; kernel_rfl
theorem int_declines_bytes (a : Int) (t : Tok) (b : Array UInt8) (u : Tok) : Gives (Builtin.«int.__eq__» ⟨[.int a t, .bytes b u], []⟩) (.val .notImplemented) :=
  .of_wp fun M A E s Q h => by obtain ⟨hp, g, d, tk, os⟩ := s; wp_walk; exact ⟨_, rfl, h⟩
theorem str_declines_bytes (a : PySem.Str) (t : Tok) (b : Array UInt8) (u : Tok) : Gives (Builtin.«str.__eq__» ⟨[.str a t, .bytes b u], []⟩) (.val .notImplemented) :=
  .of_wp fun M A E s Q h => by obtain ⟨hp, g, d, tk, os⟩ := s; wp_walk; exact ⟨_, rfl, h⟩
theorem slot_bytes_eq_refl : Slot "bytes" (cmpInfo .Eq).2.2 "bytes.__eq__" := FB.slot_bytes_eq

open AutoSeq1 (wpAny_loadPart') in
theorem tuple_declines_bytes (l : Addr) (items : Array Value) (n : Nat) (dd : Option Addr) (sl : Array (Option Value)) (b : Array UInt8) (u : Tok) :
    Meets (Builtin.«tuple.__eq__» ⟨[.ref l, .bytes b u], []⟩) (fun _ R s => s.heap.get? l = some { cls := .type "tuple", dict := dd, data := .seq items n, slots := sl } ∧ R (.ok (.ret .notImplemented)) s) :=
  .of_wp fun prog w A R s h => by obtain ⟨hp, g, d, tk, os⟩ := s; obtain ⟨hl, h⟩ := h; have f1 := sub_bytes_tuple; wp_walk using wpAny_loadPart' hl; exact ⟨_, rfl, h⟩
theorem bytes_declines_tuple (b : Array UInt8) (u : Tok) (l : Addr) :
    Meets (Builtin.«bytes.__eq__» ⟨[.bytes b u, .ref l], []⟩) (fun _ R s => s.TypeIs (.ref l) "tuple" ∧ R (.ok (.ret .notImplemented)) s) :=
  .of_wp fun prog w A R s h => by
    obtain ⟨hl, h⟩ := h
    show wpAny _ _ (isInstance (.ref l) (.type "bytes") >>= fun r => _) _ _ s
    refine wpAny_bind (wpAny_isInstance hl sub_tuple_bytes ?_)
    exact wpAny_bind (wpAny_rule (wpAny_pure ⟨_, rfl, h⟩))

theorem eqAt_of_rc {a b : Value} {k : Bool} (hne : (a == b) = false) (hf : ∀ x t y u, a = .float x t → b = .float y u → False) (h : RcAt A s a b k) : EqAt A s a b k := fun prog w E Q hq => by
  unfold eqBool
  refine wpAny_holding ?_
  refine wpAny_ite_split (fun hab => by rw [hne] at hab; cases hab) (fun _ => ?_)
  split
  · rename_i q; cases q; exact (hf _ _ _ _ rfl rfl).elim
  · exact wpAny_bind (h prog w E _ (wpAny_truthy_bool hq))
theorem eqAt_bytes_int (a : Array UInt8) (t : Tok) (b : Int) (u : Tok) : EqAt A s (.bytes a t) (.int b u) false := eqAt_of_rc rfl nofun fun prog w E Q h =>
  rc_eq_decline_or (k := false) (typeIs_bytes s a t) (typeIs_int s b u) (by decide) sub_int_bytes FB.slot_bytes_eq F.slot_int_eq_refl
    (fun _ hq => call_gives FB.slot_bytes_eq (typeIs_bytes s a t) FB.entry_bytes_eq (FB.args_bytes_eq_2 _ _) (bytes_declines (fun s => typeIs_int s b u) sub_int_bytes) hq)
    (fun _ hq => call_gives F.slot_int_eq_refl (typeIs_int s b u) F.entry_int_eq (F.args_int_eq_2 _ _) (int_declines_bytes b u a t) hq)
    (fun _ hq => wpAny_of_eq (rfl : isSame (.bytes a t) (.int b u) = pure false) hq) (.inl rfl) h
theorem eqAt_int_bytes (b : Int) (u : Tok) (a : Array UInt8) (t : Tok) : EqAt A s (.int b u) (.bytes a t) false := eqAt_of_rc rfl nofun fun prog w E Q h =>
  rc_eq_decline_or (k := false) (typeIs_int s b u) (typeIs_bytes s a t) (by decide) sub_bytes_int F.slot_int_eq slot_bytes_eq_refl
    (fun _ hq => call_gives F.slot_int_eq (typeIs_int s b u) F.entry_int_eq (F.args_int_eq_2 _ _) (int_declines_bytes b u a t) hq)
    (fun _ hq => call_gives slot_bytes_eq_refl (typeIs_bytes s a t) FB.entry_bytes_eq (FB.args_bytes_eq_2 _ _) (bytes_declines (fun s => typeIs_int s b u) sub_int_bytes) hq)
    (fun _ hq => wpAny_of_eq (rfl : isSame (.int b u) (.bytes a t) = pure false) hq) (.inl rfl) h
theorem eqAt_bytes_str (a : Array UInt8) (t : Tok) (b : PySem.Str) (u : Tok) : EqAt A s (.bytes a t) (.str b u) false := eqAt_of_rc rfl nofun fun prog w E Q h =>
  rc_eq_decline_or (k := false) (typeIs_bytes s a t) (typeIs_str s b u) (by decide) sub_str_bytes FB.slot_bytes_eq F.slot_str_eq_refl
    (fun _ hq => call_gives FB.slot_bytes_eq (typeIs_bytes s a t) FB.entry_bytes_eq (FB.args_bytes_eq_2 _ _) (bytes_declines (fun s => typeIs_str s b u) sub_str_bytes) hq)
    (fun _ hq => call_gives F.slot_str_eq_refl (typeIs_str s b u) F.entry_str_eq (F.args_str_eq_2 _ _) (str_declines_bytes b u a t) hq)
    (fun _ hq => wpAny_of_eq (rfl : isSame (.bytes a t) (.str b u) = pure false) hq) (.inl rfl) h
theorem eqAt_str_bytes (b : PySem.Str) (u : Tok) (a : Array UInt8) (t : Tok) : EqAt A s (.str b u) (.bytes a t) false := eqAt_of_rc rfl nofun fun prog w E Q h =>
  rc_eq_decline_or (k := false) (typeIs_str s b u) (typeIs_bytes s a t) (by decide) sub_bytes_str F.slot_str_eq slot_bytes_eq_refl
    (fun _ hq => call_gives F.slot_str_eq (typeIs_str s b u) F.entry_str_eq (F.args_str_eq_2 _ _) (str_declines_bytes b u a t) hq)
    (fun _ hq => call_gives slot_bytes_eq_refl (typeIs_bytes s a t) FB.entry_bytes_eq (FB.args_bytes_eq_2 _ _) (bytes_declines (fun s => typeIs_str s b u) sub_str_bytes) hq)
    (fun _ hq => wpAny_of_eq (rfl : isSame (.str b u) (.bytes a t) = pure false) hq) (.inl rfl) h
theorem eqAt_bytes_tuple {l : Addr} {items : Array Value} (a : Array UInt8) (t : Tok) (hl : s.heap.IsTuple l items) (hu : A.units < cLine) : EqAt A s (.bytes a t) (.ref l) false := eqAt_of_rc rfl nofun fun prog w E Q h => by
  obtain ⟨⟨cls, dd, data, sl⟩, ho, hc, n, hd⟩ := id hl
  simp only at hc hd
  subst hc hd
  exact rc_eq_decline_or (k := false) (typeIs_bytes s a t) ⟨_, ho, rfl⟩ (by decide) sub_tuple_bytes FB.slot_bytes_eq F.slot_tuple_eq_refl
    (fun _ hq => call_meets FB.slot_bytes_eq (typeIs_bytes s a t) FB.entry_bytes_eq (FB.args_bytes_eq_2 _ _) (bytes_declines_tuple a t l) ⟨⟨_, ho, rfl⟩, hq⟩)
    (fun _ hq => call_meets F.slot_tuple_eq_refl ⟨_, ho, rfl⟩ F.entry_tuple_eq (F.args_tuple_eq_2 _ _) (tuple_declines_bytes l items n dd sl a t) ⟨ho, hq⟩)
    (fun _ hq => wpAny_of_eq (rfl : isSame (.bytes a t) (.ref l) = pure false) hq) (.inr hu) h
theorem eqAt_tuple_bytes {l : Addr} {items : Array Value} (a : Array UInt8) (t : Tok) (hl : s.heap.IsTuple l items) (hu : A.units < cLine) : EqAt A s (.ref l) (.bytes a t) false := eqAt_of_rc rfl nofun fun prog w E Q h => by
  obtain ⟨⟨cls, dd, data, sl⟩, ho, hc, n, hd⟩ := id hl
  simp only at hc hd
  subst hc hd
  exact rc_eq_decline_or (k := false) ⟨_, ho, rfl⟩ (typeIs_bytes s a t) (by decide) sub_bytes_tuple F.slot_tuple_eq slot_bytes_eq_refl
    (fun _ hq => call_meets F.slot_tuple_eq ⟨_, ho, rfl⟩ F.entry_tuple_eq (F.args_tuple_eq_2 _ _) (tuple_declines_bytes l items n dd sl a t) ⟨ho, hq⟩)
    (fun _ hq => call_meets slot_bytes_eq_refl (typeIs_bytes s a t) FB.entry_bytes_eq (FB.args_bytes_eq_2 _ _) (bytes_declines_tuple a t l) ⟨⟨_, ho, rfl⟩, hq⟩)
    (fun _ hq => wpAny_of_eq (rfl : isSame (.ref l) (.bytes a t) = pure false) hq) (.inr hu) h
theorem eqAt_bytes (a : Array UInt8) (t : Tok) (b : Array UInt8) (u : Tok) : EqAt A s (.bytes a t) (.bytes b u) (decide (a.toList = b.toList)) := fun _ _ _ _ h => eqBool_bytes h
theorem eqAt_cast {a b : Value} {k k' : Bool} (h : EqAt A s a b k) (e : k = k') : EqAt A s a b k' := e ▸ h

/-- the keys compare as their data do -/
theorem eqAt_key {a b : Key} {u v : Value} (hu : A.units < cLine) (x : IsKey prog w s.heap a u) (y : IsKey prog w s.heap b v) {Q : Bool → Shared → Prop} (h : Q (decide (a = b)) s) : wpAny (model prog w) A (eqBool u v) Q E s := by
  cases x with
  | int i t => cases y with
    | int j u => exact EqAt.int_int i t j u _ _ _ _ (by rw [show (i == j) = decide (Key.int i = Key.int j) from by rw [Bool.eq_iff_iff]; simp]; exact h)
    | str y u => exact EqAt.int_str i t y u _ _ _ _ (by simpa using h)
    | bytes c u => exact eqAt_int_bytes i t _ u _ _ _ _ (by simpa using h)
    | tup z => obtain ⟨_, hl⟩ := IsTupleKey.isTuple z; exact EqAt.int_tuple i t hl hu _ _ _ _ (by simpa using h)
  | str x t => cases y with
    | int j u => exact EqAt.str_int x t j u _ _ _ _ (by simpa using h)
    | str y u => exact EqAt.str_str x t y u _ _ _ _ (by rw [show (x == y) = decide (Key.str x = Key.str y) from by rw [Bool.eq_iff_iff]; simp]; exact h)
    | bytes c u => exact eqAt_str_bytes x t _ u _ _ _ _ (by simpa using h)
    | tup z => obtain ⟨_, hl⟩ := IsTupleKey.isTuple z; exact EqAt.str_tuple x t hl hu _ _ _ _ (by simpa using h)
  | bytes c t => cases y with
    | int j u => exact eqAt_bytes_int _ t j u _ _ _ _ (by simpa using h)
    | str y u => exact eqAt_bytes_str _ t y u _ _ _ _ (by simpa using h)
    | bytes e u => exact eqAt_bytes _ t _ u _ _ _ _ (by simpa using h)
    | tup z => obtain ⟨_, hl⟩ := IsTupleKey.isTuple z; exact eqAt_bytes_tuple _ t hl hu _ _ _ _ (by simpa using h)
  | tup z => cases y with
    | int j u => obtain ⟨_, hl⟩ := IsTupleKey.isTuple z; exact EqAt.tuple_int j u hl hu _ _ _ _ (by simpa using h)
    | str y u => obtain ⟨_, hl⟩ := IsTupleKey.isTuple z; exact EqAt.tuple_str y u hl hu _ _ _ _ (by simpa using h)
    | bytes e u => obtain ⟨_, hl⟩ := IsTupleKey.isTuple z; exact eqAt_tuple_bytes _ u hl hu _ _ _ _ (by simpa using h)
    | tup z' => exact wpAny_eqBool_tuple hu z z' (by simpa using h)

theorem quiet_key {k : Key} {v : Value} {Q : Bool → Shared → Prop} (x : IsKey prog w s.heap k v) (h : Q true s) : wpAny (model prog w) A (eqIsQuiet 8 v) Q E s := by
  cases x with
  | tup y => exact wpAny_eqIsQuiet_tuple y h
  | _ => rw [eqIsQuiet_byValue 8 rfl]; exact wpAny_pure h
end
end Mine
end
section
set_option maxRecDepth 100000
namespace Mine
open PySem PySem.W PySem.Spec PySem.Calls PyProof.Rows PySem.SeqAt

/-- the entries of a dict: the key's datum, the key as it was stored, the value -/
abbrev Ents := List (Key × Value × Value)
def entK (w : World) (x : Key × Value × Value) : DictEntry := ⟨hashK w x.1, x.2.1, x.2.2⟩
def keysOf (xs : Ents) : List Key := xs.map (·.1)
def look (xs : Ents) (k : Key) : Option Value := (xs.find? fun x => decide (x.1 = k)).map (·.2.2)
structure Keyed (prog : Program) (w : World) (h : Heap) (xs : Ents) : Prop where
  is : ∀ x ∈ xs, IsKey prog w h x.1 x.2.1
  nodup : (keysOf xs).Nodup
abbrev dictK (w : World) (xs : Ents) (n : Nat) : Obj := dictOf (xs.map (entK w)) n

theorem idxK_unique {xs : Ents} (hn : (keysOf xs).Nodup) : ∀ {i j : Nat} {k : Key} {p q : Value × Value}, xs[i]? = some (k, p) → xs[j]? = some (k, q) → i = j := by
  intro i j k p q hi hj
  have hi' : (xs.map (·.1))[i]? = some k := by rw [List.getElem?_map, hi]; rfl
  have hj' : (xs.map (·.1))[j]? = some k := by rw [List.getElem?_map, hj]; rfl
  exact (List.getElem?_inj (List.getElem?_eq_some_iff.mp hi').1 hn).mp (hi'.trans hj'.symm)
theorem look_of_get {xs : Ents} (hn : (keysOf xs).Nodup) {i : Nat} {k : Key} {p : Value × Value} (hx : xs[i]? = some (k, p)) : look xs k = some p.2 := by
  induction xs generalizing i with
  | nil => simp at hx
  | cons x rest ih =>
    rw [keysOf, List.map_cons, List.nodup_cons] at hn
    cases i with
    | zero =>
      simp only [List.getElem?_cons_zero, Option.some.injEq] at hx
      subst hx; simp [look]
    | succ j =>
      simp only [List.getElem?_cons_succ] at hx
      have hmem : k ∈ rest.map (·.1) := List.mem_map.mpr ⟨(k, p), List.mem_of_getElem? hx, rfl⟩
      have hne : ¬ x.1 = k := fun e => hn.1 (e ▸ hmem)
      have := ih hn.2 hx
      simpa [look, List.find?_cons, hne] using this
theorem look_none_of_get {xs : Ents} {k : Key} (h : ∀ (j : Nat) (p : Value × Value), xs[j]? ≠ some (k, p)) : look xs k = none := by
  have : (xs.find? fun x => decide (x.1 = k)) = none := by
    rw [List.find?_eq_none]
    intro x hx hk
    obtain ⟨j, hj⟩ := List.mem_iff_getElem?.mp hx
    have hk' : x.1 = k := of_decide_eq_true hk
    exact h j x.2 (by rw [hj, ← hk'])
  simp [look, this]
theorem not_mem_of_get {xs : Ents} {k : Key} (h : ∀ (j : Nat) (p : Value × Value), xs[j]? ≠ some (k, p)) : k ∉ keysOf xs := by
  intro hm
  obtain ⟨x, hx, rfl⟩ := List.mem_map.mp hm
  obtain ⟨j, hj⟩ := List.mem_iff_getElem?.mp hx
  exact h j x.2 hj

section
variable {prog : Program} {w : World} {A : Around} {E : Value → Shared → Prop} {s : Shared}

theorem entK_at {xs : Ents} (j : Nat) : (xs.map (entK w)).toArray[j]? = (xs[j]?).map (entK w) := by
  rw [← Array.getElem?_toList, List.getElem?_map]

theorem tableMayTell_key {k : Key} {key : Value} {stored : List Value} {Q : Bool → Shared → Prop} (hkey : IsKey prog w s.heap k key)
    (hst : ∀ v ∈ stored, ∃ k', IsKey prog w s.heap k' v) (h : Q false s) : wpAny (model prog w) A (tableMayTell key stored) Q E s := by
  unfold tableMayTell
  split
  · exact wpAny_pure h
  · refine wpAny_bind (quiet_key hkey ?_)
    simp only [Bool.not_true, Bool.false_eq_true, if_false]
    refine wpAny_bind ?_
    refine wpAny_forIn_list _ (fun rest r s' => s' = s ∧ r = (none, ()) ∧ ∀ v ∈ rest, ∃ k', IsKey prog w s.heap k' v) _ ?_ ?_ _ _ ⟨rfl, rfl, hst⟩
    · rintro x rest r s' ⟨rfl, rfl, hr⟩
      obtain ⟨k', hb⟩ := hr x List.mem_cons_self
      refine wpAny_bind (quiet_key hb ?_)
      simp only [Bool.not_true, Bool.false_eq_true, if_false]
      exact wpAny_pure ⟨rfl, rfl, fun v hv => hr v (List.mem_cons_of_mem _ hv)⟩
    · rintro r s' ⟨rfl, rfl, _⟩
      exact wpAny_pure h

theorem dictFind_key {d : Addr} {o : Obj} {n : Nat} {xs : Ents} {k : Key} {key : Value} {Q : Option Nat → Shared → Prop} (hu : A.units < cLine) (hkey : IsKey prog w s.heap k key)
    (ho : s.heap.get? d = some o) (hd : o.data = .dict (xs.map (entK w)).toArray n) (hx : Keyed prog w s.heap xs)
    (hnone : (∀ (j : Nat) (p : Value × Value), xs[j]? ≠ some (k, p)) → Q none s) (hsome : ∀ (j : Nat) (p : Value × Value), xs[j]? = some (k, p) → Q (some j) s) :
    wpAny (model prog w) A (dictFind d key (hashK w k)) Q E s := by
  obtain ⟨his, hn⟩ := hx
  generalize hes : (xs.map (entK w)).toArray = es at hd
  have he : es.toList = xs.map (entK w) := by rw [← hes]
  have hsz : es.size = xs.length := by rw [← Array.length_toList, he, List.length_map]
  have entAt : ∀ j : Nat, es[j]? = (xs[j]?).map (entK w) := fun j => by rw [← Array.getElem?_toList, he, List.getElem?_map]
  have haskey : ∀ (j : Nat) (p : Value × Value), xs[j]? = some (k, p) → ((es[j]?.map (·.hash)) == some (hashK w k)) = true := by
    intro j p hj
    rw [entAt j, hj]
    simp [entK]
  have hmem : ∀ e ∈ es, ∃ x ∈ xs, e = entK w x := by
    intro e hin
    have : e ∈ xs.map (entK w) := he ▸ Array.mem_toList_iff.mpr hin
    obtain ⟨x, hx, rfl⟩ := List.mem_map.mp this
    exact ⟨x, hx, rfl⟩
  have hst : ∀ v ∈ (placesWithHash es.size (fun i => es[i]?.map (·.hash)) (hashK w k)).filterMap (fun i => es[i]?.map (·.key)), ∃ k', IsKey prog w s.heap k' v := by
    intro v hv
    obtain ⟨i, _, hi⟩ := List.mem_filterMap.mp hv
    cases hei : es[i]? with
    | none => rw [hei] at hi; cases hi
    | some e =>
      rw [hei] at hi
      obtain rfl : e.key = v := by simpa using hi
      obtain ⟨x, hx, rfl⟩ := hmem e (Array.mem_of_getElem? hei)
      exact ⟨x.1, his x hx⟩
  -- the walk over places, when all are carried by value
  have plain : wpAny (model prog w) A (dictWalkPlain d key (hashK w k) es (placesWithHash es.size (fun i => es[i]?.map (·.hash)) (hashK w k))) Q E s := by
    refine wpAny_bind ?_
    refine wpAny_forIn_list _
      (fun rest b s' => s' = s ∧ b = (none, ()) ∧ ∃ i, rest = (List.range' i (es.size - i)).filter (fun i => (es[i]?.map (·.hash)) == some (hashK w k)) ∧ i ≤ es.size ∧
        ∀ j p, j < i → xs[j]? ≠ some (k, p)) _ ?_ ?_ _ _
      ⟨rfl, rfl, 0, by rw [placesWithHash, List.range_eq_range', Nat.sub_zero], Nat.zero_le _, fun _ _ h => absurd h (Nat.not_lt_zero _)⟩
    · rintro x rest b s' ⟨rfl, rfl, i, hr, hi, hno⟩
      obtain ⟨hix, hxn, hpx, hskip, hrest⟩ := filter_range'_cons _ _ _ _ _ hr.symm
      have hlt : x < es.size := by omega
      have hrest' : rest = (List.range' (x + 1) (es.size - (x + 1))).filter (fun i => (es[i]?.map (·.hash)) == some (hashK w k)) := by rw [hrest]; congr 2; omega
      obtain ⟨⟨k', b, v'⟩, hkv⟩ : ∃ y, xs[x]? = some y := ⟨xs[x]'(by rw [← hsz]; exact hlt), List.getElem?_eq_getElem _⟩
      have hib : IsKey prog w s'.heap k' b := his _ (List.mem_of_getElem? hkv)
      have hex : es[x]? = some ⟨hashK w k', b, v'⟩ := by rw [entAt x, hkv]; rfl
      have hnext : ¬ k' = k → ∀ j p, j < x + 1 → xs[j]? ≠ some (k, p) := fun hne j p hjx hj => by
        rcases Nat.lt_or_ge j i with h | h
        · exact hno j p h hj
        · rcases Nat.lt_or_ge j x with h' | h'
          · have := hskip j h h'
            rw [haskey j p hj] at this
            exact absurd this (by decide)
          · have hjx' : j = x := by omega
            subst hjx'
            rw [hkv] at hj
            injection hj with hj
            injection hj with hj
            exact hne hj
      simp only [hex]
      by_cases hh : (hashK w k' == hashK w k) = true
      · rw [if_pos hh]
        refine wpAny_bind (wpAny_dictEpoch ho hd (wpAny_bind (eqAt_key hu hib hkey (wpAny_bind (wpAny_dictEpoch ho hd ?_)))))
        show wpAny _ _ (if (n != n) = true then _ else _) _ E _
        rw [if_neg (by simp)]
        by_cases hkk : k' = k
        · rw [decide_eq_true hkk]
          subst hkk
          exact wpAny_bind (wpAny_rule (wpAny_pure (wpAny_pure (hsome x _ hkv))))
        · rw [decide_eq_false hkk]
          exact wpAny_bind (wpAny_rule (wpAny_pure ⟨rfl, rfl, x + 1, hrest', hlt, hnext hkk⟩))
      · rw [if_neg hh]
        refine wpAny_pure ⟨rfl, rfl, x + 1, hrest', hlt, hnext ?_⟩
        intro hkk
        rw [hkk] at hh; simp at hh
    · rintro b s' ⟨rfl, rfl, i, hr, hi, hno⟩
      have hall : ∀ j, i ≤ j → j < es.size → ((es[j]?.map (·.hash)) == some (hashK w k)) = false := by
        intro j h1 h2
        have := List.filter_eq_nil_iff.mp hr.symm j (List.mem_range'_1.mpr ⟨h1, by omega⟩)
        simpa using this
      refine wpAny_pure (hnone fun j p hj => ?_)
      rcases Nat.lt_or_ge j i with h | h
      · exact hno j p h hj
      · have hjl : j < es.size := by
          rw [hsz]
          rcases Nat.lt_or_ge j xs.length with h' | h'
          · exact h'
          · rw [List.getElem?_eq_none h'] at hj; exact nomatch hj
        have := hall j h hjl
        rw [haskey j p hj] at this
        exact absurd this (by decide)
  -- the walk in the general case
  have general : ∀ (tells : Bool), tells = false → wpAny (model prog w) A (do
      if tells && ((placesWithHash es.size (fun i => es[i]?.map (·.hash)) (hashK w k)).filterMap fun i => es[i]?.map (·.key)).length ≥ 2 then unsupported "dict.find:order-among-keys-of-one-hash"
      let mut hit : Option Nat := none
      for i in placesWithHash es.size (fun i => es[i]?.map (·.hash)) (hashK w k) do
        if let some e := es[i]? then
          if e.hash == hashK w k then
            let before ← dictEpoch d (keyPart key)
            let same ← eqBool e.key key
            if (← dictEpoch d (keyPart key)) != before then unsupported "dict.changed-during-lookup"
            if same then
              if hit.isSome then unsupported "dict.find:order-among-keys-of-one-hash"
              rule "dict.find.hit"
              if ((placesWithHash es.size (fun i => es[i]?.map (·.hash)) (hashK w k)).filterMap fun i => es[i]?.map (·.key)).length < 2 then return some i
              hit := some i
            else
              rule "dict.find.same-hash-other-key"
              if tells && !(0 ≤ hashK w k && hashK w k < 32) then unsupported "dict.find:asked-again-or-not-hangs-on-the-table"
      return hit) Q E s := by
    rintro tells rfl
    rw [if_neg (by simp)]
    refine wpAny_bind ?_
    refine wpAny_forIn_list _
      (fun rest b s' => s' = s ∧ ∃ i hit, b = (none, hit) ∧ rest = (List.range' i (es.size - i)).filter (fun i => (es[i]?.map (·.hash)) == some (hashK w k)) ∧ i ≤ es.size ∧
        ((hit = none ∧ ∀ j p, j < i → xs[j]? ≠ some (k, p)) ∨ ∃ j p, hit = some j ∧ j < i ∧ xs[j]? = some (k, p))) _ ?_ ?_ _ _
      ⟨rfl, 0, none, rfl, by rw [placesWithHash, List.range_eq_range', Nat.sub_zero], Nat.zero_le _, .inl ⟨rfl, fun _ _ h => absurd h (Nat.not_lt_zero _)⟩⟩
    · rintro x rest b s' ⟨rfl, i, hit, rfl, hr, hi, hH⟩
      obtain ⟨hix, hxn, hpx, hskip, hrest⟩ := filter_range'_cons _ _ _ _ _ hr.symm
      have hlt : x < es.size := by omega
      have hrest' : rest = (List.range' (x + 1) (es.size - (x + 1))).filter (fun i => (es[i]?.map (·.hash)) == some (hashK w k)) := by rw [hrest]; congr 2; omega
      obtain ⟨⟨k', b, v'⟩, hkv⟩ : ∃ y, xs[x]? = some y := ⟨xs[x]'(by rw [← hsz]; exact hlt), List.getElem?_eq_getElem _⟩
      have hib : IsKey prog w s'.heap k' b := his _ (List.mem_of_getElem? hkv)
      have hex : es[x]? = some ⟨hashK w k', b, v'⟩ := by rw [entAt x, hkv]; rfl
      have hHx : (hit = none ∧ ∀ j p, j < x → xs[j]? ≠ some (k, p)) ∨ ∃ j p, hit = some j ∧ j < x ∧ xs[j]? = some (k, p) := by
        rcases hH with ⟨h0, hno⟩ | ⟨j, p, h1, hji, hj⟩
        · refine .inl ⟨h0, fun j p hjx hj => ?_⟩
          rcases Nat.lt_or_ge j i with h | h
          · exact hno j p h hj
          · have := hskip j h hjx
            rw [haskey j p hj] at this
            exact absurd this (by decide)
        · exact .inr ⟨j, p, h1, by omega, hj⟩
      have hstay : ¬ k' = k → ((hit = none ∧ ∀ j p, j < x + 1 → xs[j]? ≠ some (k, p)) ∨ ∃ j p, hit = some j ∧ j < x + 1 ∧ xs[j]? = some (k, p)) := by
        intro hne
        rcases hHx with ⟨h0, hno⟩ | ⟨j, p, h1, hjx, hj⟩
        · refine .inl ⟨h0, fun j p hjx hj => ?_⟩
          rcases Nat.lt_or_ge j x with h | h
          · exact hno j p h hj
          · have hjx' : j = x := by omega
            subst hjx'
            rw [hkv] at hj
            injection hj with hj
            injection hj with hj
            exact hne hj
        · exact .inr ⟨j, p, h1, by omega, hj⟩
      rw [hex]
      dsimp only
      by_cases hh : (hashK w k' == hashK w k) = true
      · rw [if_pos hh]
        refine wpAny_bind (wpAny_dictEpoch ho hd (wpAny_bind (eqAt_key hu hib hkey (wpAny_bind (wpAny_dictEpoch ho hd ?_)))))
        show wpAny _ _ (if (n != n) = true then _ else _) _ E _
        rw [if_neg (by simp)]
        by_cases hkk : k' = k
        · rw [decide_eq_true hkk]
          subst hkk
          rcases hHx with ⟨rfl, _⟩ | ⟨j, p, _, hjx, hj⟩
          · first | rw [if_pos rfl] | skip
            simp only [Option.isSome_none, Bool.false_eq_true, if_false]
            first | refine wpAny_bind (wpAny_pure ?_) | skip
            refine wpAny_bind (wpAny_rule ?_)
            split
            · exact wpAny_pure (wpAny_pure (hsome x _ hkv))
            · exact wpAny_pure ⟨rfl, x + 1, some x, rfl, hrest', hlt, .inr ⟨x, _, rfl, Nat.lt_succ_self x, hkv⟩⟩
          · exact absurd (idxK_unique hn hj hkv) (by omega)
        · rw [decide_eq_false hkk]
          simp only [Bool.false_eq_true, if_false]
          refine wpAny_bind (wpAny_rule ?_)
          first | rw [if_neg (by simp)] | skip
          first
            | exact wpAny_pure ⟨rfl, x + 1, hit, rfl, hrest', hlt, hstay hkk⟩
            | exact wpAny_bind (wpAny_pure (wpAny_pure ⟨rfl, x + 1, hit, rfl, hrest', hlt, hstay hkk⟩))
      · rw [if_neg hh]
        refine wpAny_pure ⟨rfl, x + 1, hit, rfl, hrest', hlt, hstay ?_⟩
        intro hkk
        rw [hkk] at hh; simp at hh
    · rintro b s' ⟨rfl, i, hit, rfl, hr, hi, hH⟩
      have hall : ∀ j, i ≤ j → j < es.size → ((es[j]?.map (·.hash)) == some (hashK w k)) = false := by
        intro j h1 h2
        have := List.filter_eq_nil_iff.mp hr.symm j (List.mem_range'_1.mpr ⟨h1, by omega⟩)
        simpa using this
      rcases hH with ⟨rfl, hno⟩ | ⟨j, p, rfl, _, hj⟩
      · refine wpAny_pure (hnone fun j p hj => ?_)
        rcases Nat.lt_or_ge j i with h | h
        · exact hno j p h hj
        · have hjl : j < es.size := by
            rw [hsz]
            rcases Nat.lt_or_ge j xs.length with h' | h'
            · exact h'
            · rw [List.getElem?_eq_none h'] at hj; exact nomatch hj
          have := hall j h hjl
          rw [haskey j p hj] at this
          exact absurd this (by decide)
      · exact wpAny_pure (hsome j p hj)
  unfold dictFind
  try with_reducible refine wpAny_holding ?_
  refine wpAny_bind (wpAny_dictEntries ho hd ?_)
  dsimp only
  -- behind the look for a text among texts
  have rest : wpAny (model prog w) A (do
      let places := placesWithHash es.size (fun i => es[i]?.map (·.hash)) (hashK w k)
      let stored := places.filterMap fun i => es[i]?.map (·.key)
      if (key :: stored).all carriedByValue then return ← dictWalkPlain d key (hashK w k) es places
      if let .ref _ := key then
        if es.any fun e => e.key == key && e.hash != hashK w k then unsupported "dict.find:a-stored-key-whose-hash-has-changed"
      let tells ← if stored == [key] then pure false else tableMayTell key stored
      if tells && stored.length ≥ 2 then unsupported "dict.find:order-among-keys-of-one-hash"
      let mut hit : Option Nat := none
      for i in places do
        if let some e := es[i]? then
          if e.hash == hashK w k then
            let before ← dictEpoch d (keyPart key)
            let same ← eqBool e.key key
            if (← dictEpoch d (keyPart key)) != before then unsupported "dict.changed-during-lookup"
            if same then
              if hit.isSome then unsupported "dict.find:order-among-keys-of-one-hash"
              rule "dict.find.hit"
              if stored.length < 2 then return some i
              hit := some i
            else
              rule "dict.find.same-hash-other-key"
              if tells && !(0 ≤ hashK w k && hashK w k < 32) then unsupported "dict.find:asked-again-or-not-hangs-on-the-table"
      return hit) Q E s := by
    dsimp only
    by_cases hall : ((key :: (placesWithHash es.size (fun i => es[i]?.map (·.hash)) (hashK w k)).filterMap fun i => es[i]?.map (·.key)).all carriedByValue) = true
    · rw [if_pos hall]; exact plain
    · rw [if_neg hall]
      have go : wpAny (model prog w) A (do
          let tells ← if (placesWithHash es.size (fun i => es[i]?.map (·.hash)) (hashK w k)).filterMap (fun i => es[i]?.map (·.key)) == [key] then pure false else tableMayTell key ((placesWithHash es.size (fun i => es[i]?.map (·.hash)) (hashK w k)).filterMap (fun i => es[i]?.map (·.key)))
          if tells && ((placesWithHash es.size (fun i => es[i]?.map (·.hash)) (hashK w k)).filterMap fun i => es[i]?.map (·.key)).length ≥ 2 then unsupported "dict.find:order-among-keys-of-one-hash"
          let mut hit : Option Nat := none
          for i in placesWithHash es.size (fun i => es[i]?.map (·.hash)) (hashK w k) do
            if let some e := es[i]? then
              if e.hash == hashK w k then
                let before ← dictEpoch d (keyPart key)
                let same ← eqBool e.key key
                if (← dictEpoch d (keyPart key)) != before then unsupported "dict.changed-during-lookup"
                if same then
                  if hit.isSome then unsupported "dict.find:order-among-keys-of-one-hash"
                  rule "dict.find.hit"
                  if ((placesWithHash es.size (fun i => es[i]?.map (·.hash)) (hashK w k)).filterMap fun i => es[i]?.map (·.key)).length < 2 then return some i
                  hit := some i
                else
                  rule "dict.find.same-hash-other-key"
                  if tells && !(0 ≤ hashK w k && hashK w k < 32) then unsupported "dict.find:asked-again-or-not-hangs-on-the-table"
          return hit) Q E s := by
        dsimp only
        by_cases hone : ((placesWithHash es.size (fun i => es[i]?.map (·.hash)) (hashK w k)).filterMap (fun i => es[i]?.map (·.key)) == [key]) = true
        · rw [if_pos hone]; exact wpAny_bind (wpAny_pure (general false rfl))
        · rw [if_neg hone]; exact wpAny_bind (tableMayTell_key hkey hst (general false rfl))
      cases hkey with
      | @tup ns ta y =>
        have hany : ¬ (es.any fun e => e.key == Value.ref ta && e.hash != hashK w (.tup ns)) = true := by
          rw [← Array.any_toList, List.any_eq_true]
          rintro ⟨e, hin, hc⟩
          obtain ⟨x, hx, rfl⟩ := hmem e (Array.mem_toList_iff.mp hin)
          simp only [entK, Bool.and_eq_true, beq_iff_eq, bne_iff_ne, ne_eq] at hc
          obtain ⟨hxa, hne⟩ := hc
          have := his x hx
          rw [hxa] at this
          exact hne (by rw [this.inj (.tup y)])
        rw [if_neg hany]
        exact go
      | _ => exact go
  cases key with
  | str x t =>
    dsimp only
    by_cases hstrs : (es.all fun e => isExactStrKey e.key) = true
    · rw [if_pos hstrs]
      -- a text among texts
      have hfi : ∀ i, es.findIdx? (fun e => e.key.isStr x) = some i → ∃ p, xs[i]? = some (k, p) := by
        intro i hf
        obtain ⟨hlt, hi, _⟩ := Array.findIdx?_eq_some_iff_getElem.mp hf
        obtain ⟨⟨k', b, v'⟩, hkv⟩ : ∃ y, xs[i]? = some y := ⟨xs[i]'(by rw [← hsz]; exact hlt), List.getElem?_eq_getElem _⟩
        have hex : es[i]? = some ⟨hashK w k', b, v'⟩ := by rw [entAt i, hkv]; rfl
        rw [Array.getElem?_eq_getElem hlt] at hex
        have hb : b.isStr x = true := by rw [Option.some.inj hex] at hi; exact hi
        have hib := his _ (List.mem_of_getElem? hkv)
        dsimp only at hib
        cases hkey with
        | str _ _ =>
          cases hib with
          | str y u => rw [show y = x from by simpa [Value.isStr] using hb] at hkv; exact ⟨_, hkv⟩
          | _ => cases hb
      have hno : es.findIdx? (fun e => e.key.isStr x) = none → ∀ (j : Nat) (p : Value × Value), xs[j]? ≠ some (k, p) := by
        intro hf j p hj
        have h1 := Array.findIdx?_eq_none_iff.mp hf
        have hib := his _ (List.mem_of_getElem? hj)
        have hej : es[j]? = some (entK w (k, p)) := by rw [entAt j, hj]; rfl
        have h2 := h1 _ (Array.mem_of_getElem? hej)
        cases hkey with
        | str _ _ =>
          obtain ⟨pk, pv⟩ := p
          dsimp only at hib
          cases hib with
          | str _ u => simp [entK, Value.isStr] at h2
      unfold foundByValue
      cases hf : es.findIdx? (fun e => e.key.isStr x) with
      | none => exact wpAny_pure (hnone (hno hf))
      | some i =>
        obtain ⟨⟨b, v'⟩, hkv⟩ := hfi i hf
        have hex : es[i]? = some ⟨hashK w k, b, v'⟩ := by rw [entAt i, hkv]; rfl
        have hib : IsKey prog w s.heap k b := his _ (List.mem_of_getElem? hkv)
        simp only [hex]
        refine wpAny_bind (wpAny_dictEpoch ho hd (wpAny_bind (eqAt_key hu hib hkey (wpAny_bind (wpAny_dictEpoch ho hd ?_)))))
        show wpAny _ _ (if (n != n) = true then _ else _) _ E _
        rw [if_neg (by simp), decide_eq_true rfl]
        exact wpAny_bind (wpAny_rule (wpAny_pure (hsome i _ hkv)))
    · rw [if_neg hstrs]; exact rest
  | _ => exact rest
end

structure IsDictK (h : Heap) (w : World) (d : Addr) (xs : Ents) (o : Obj) (n : Nat) : Prop where
  get : h.get? d = some o
  exact : o.ExactDict
  data : o.data = .dict (xs.map (entK w)).toArray n
theorem IsDictK.of {h : Heap} {w : World} {d : Addr} {xs : Ents} {n : Nat} (e : h.get? d = some (dictK w xs n)) : IsDictK h w d xs (dictK w xs n) n := ⟨e, ⟨rfl, rfl, rfl⟩, rfl⟩

section
variable {prog : Program} {w : World} {A : Around} {E : Value → Shared → Prop} {s : Shared} {d : Addr} {n : Nat} {xs : Ents} {k : Key} {key : Value}

theorem IsDictK.typeIs {o : Obj} (D : IsDictK s.heap w d xs o n) : s.TypeIs (.ref d) "dict" := ⟨o, D.get, D.exact.1⟩
theorem typeIs_dictK (ho : s.heap.get? d = some (dictK w xs n)) : s.TypeIs (.ref d) "dict" := ⟨_, ho, rfl⟩

theorem dictGet_key {Q : Option Value → Shared → Prop} (hu : A.units < cLine) (hkey : IsKey prog w s.heap k key) (ho : s.heap.get? d = some (dictK w xs n)) (hx : Keyed prog w s.heap xs)
    (h : ∀ tk, Q (look xs k) { s with toks := tk }) : wpAny (model prog w) A (dictGet d key) Q E s := by
  unfold dictGet
  try with_reducible refine wpAny_holding ?_
  refine wpAny_bind (pyHash_key hu hkey fun tk => wpAny_bind (dictFind_key (s := { s with toks := tk }) hu hkey ho rfl hx ?_ ?_))
  · intro hno
    exact wpAny_pure (by have := h tk; rwa [look_none_of_get hno] at this)
  · intro j p hj
    refine wpAny_bind (wpAny_dictEntries (s := { s with toks := tk }) ho rfl ?_)
    rw [entK_at j, hj]
    exact wpAny_pure (by have := h tk; rwa [look_of_get hx.nodup hj] at this)

theorem contains_key {Q : Bool → Shared → Prop} (hu : A.in1.units < cLine) (hkey : IsKey prog w s.heap k key) (hd : (d == sysModules) = false) (ho : s.heap.get? d = some (dictK w xs n)) (hx : Keyed prog w s.heap xs)
    (h : ∀ tk, Q (look xs k).isSome { s with toks := tk }) : wpAny (model prog w) A (contains (.ref d) key) Q E s := by
  unfold contains
  try with_reducible refine wpAny_holding ?_
  have hT := typeIs_dictK (s := s) ho
  refine wpAny_bind (wpAny_specialOf hT slot_dict_contains.lookup ?_)
  show wpAny _ _ (if (some (Value.builtin "dict.__contains__") == some Value.none) = true then _ else _) _ E s
  rw [if_neg (by rw [beq_builtin_none]; exact Bool.false_ne_true)]
  refine wpAny_bind (wpAny_callSpecialUnlessNone?_slot (name := Str.ofString "__contains__") hT slot_dict_contains
    (wpAny_call_entry slot_dict_contains hT entry_dict_contains ?_ (args_dict_contains _ _)))
  show wpAny _ _ (dictGet d key >>= _) _ _ s
  refine wpAny_bind (dictGet_key hu hkey ho hx fun tk => ?_)
  have h := h tk
  cases hf : look xs k with
  | some p =>
    rw [hf] at h
    show wpAny _ _ (ret (.bool true)) _ _ _
    exact wpAny_pure ⟨_, rfl, wpAny_truthy_bool h⟩
  | none =>
    rw [hf] at h
    show wpAny _ _ (Builtin.Dict.pendingKey? d key >>= _) _ _ _
    exact wpAny_bind (wpAny_pendingKey_other hd (wpAny_pure ⟨_, rfl, wpAny_truthy_bool h⟩))
theorem in_key {Q : Value → Shared → Prop} (hu : A.in1.units < cLine) (hkey : IsKey prog w s.heap k key) (hd : (d == sysModules) = false) (ho : s.heap.get? d = some (dictK w xs n)) (hx : Keyed prog w s.heap xs)
    (h : ∀ tk, Q (.bool (look xs k).isSome) { s with toks := tk }) : wpAny (model prog w) A (compareOp .In key (.ref d)) Q E s := by
  show wpAny _ _ (do return .bool (← contains (.ref d) key)) Q E s
  exact wpAny_bind (contains_key hu hkey hd ho hx fun tk => wpAny_pure (h tk))

theorem getItem_key {v : Value} {Q : Value → Shared → Prop} (hu : A.in1.units < cLine) (hkey : IsKey prog w s.heap k key) (ho : s.heap.get? d = some (dictK w xs n)) (hx : Keyed prog w s.heap xs) (hp : look xs k = some v)
    (h : ∀ tk, Q v { s with toks := tk }) : wpAny (model prog w) A (getItem (.ref d) key) Q E s := by
  have hT := typeIs_dictK (s := s) ho
  unfold getItem
  try with_reducible refine wpAny_holding ?_
  refine wpAny_bind (wpAny_sequenceKey hT (by decide) ?_)
  refine wpAny_bind (wpAny_callSpecial?_slot (name := Str.ofString "__getitem__") hT slot_dict_getitem
    (wpAny_call_entry slot_dict_getitem hT entry_dict_getitem ?_ (args_dict_getitem _ _)))
  show wpAny _ _ (dictGet d key >>= _) _ _ s
  refine wpAny_bind (dictGet_key hu hkey ho hx fun tk => ?_)
  rw [hp]
  exact wpAny_pure ⟨v, rfl, wpAny_pure (h tk)⟩

theorem getItem_missing_key {Q : Value → Shared → Prop} (hu : A.in1.units < cLine) (hkey : IsKey prog w s.heap k key) (hd : (d == sysModules) = false) (hh : A.handled = none) (ho : s.heap.get? d = some (dictK w xs n)) (hx : Keyed prog w s.heap xs)
    (hp : look xs k = none) (h : ∀ h' e tk, Heap.NewExc s.heap h' e "KeyError" → E (.ref e) { s with heap := h', toks := tk }) :
    wpAny (model prog w) A (getItem (.ref d) key) Q E s := by
  have hT := typeIs_dictK (s := s) ho
  unfold getItem
  try with_reducible refine wpAny_holding ?_
  refine wpAny_bind (wpAny_sequenceKey hT (by decide) ?_)
  refine wpAny_bind (wpAny_callSpecial?_slot (name := Str.ofString "__getitem__") hT slot_dict_getitem
    (wpAny_call_entry slot_dict_getitem hT entry_dict_getitem ?_ (args_dict_getitem _ _)))
  show wpAny _ _ (dictGet d key >>= _) _ _ s
  refine wpAny_bind (dictGet_key hu hkey ho hx fun tk => ?_)
  rw [hp]
  show wpAny _ _ (Builtin.Dict.missed d key >>= _) _ _ _
  refine wpAny_bind (wpAny_missed_other hd ?_)
  refine wpAny_bind (wpAny_typeOf (s := { s with toks := tk }) hT ?_)
  show wpAny _ _ (if (Value.type "dict" != Value.type "dict") = true then _ else _) _ _ _
  rw [if_neg (by decide)]
  exact wpAny_bind (wpAny_rule (wpAny_raise_newExc (A := A.in1) plainExc_KeyError hh fun h' e hx => h h' e tk hx))

theorem setItem_new_key {v : Value} {Q : Unit → Shared → Prop} (hu : A.in1.units < cLine) (hkey : IsKey prog w s.heap k key) (ho : s.heap.get? d = some (dictK w xs n)) (hx : Keyed prog w s.heap xs) (hno : k ∉ keysOf xs)
    (hQ : ∀ h' tk, h'.get? d = some (dictK w (xs ++ [(k, key, v)]) (n + 1)) → Heap.SameBut d s.heap h' → Q () { s with heap := h', toks := tk }) (hsz : xs.length ≤ sizeLine) :
    wpAny (model prog w) A (setItem (.ref d) key v) Q E s := by
  have hT := typeIs_dictK (s := s) ho
  unfold setItem
  try with_reducible refine wpAny_holding ?_
  refine wpAny_bind (wpAny_sequenceKey hT (by decide) ?_)
  refine wpAny_bind (wpAny_callSpecial?_slot (name := Str.ofString "__setitem__") hT slot_dict_setitem
    (wpAny_call_entry slot_dict_setitem hT entry_dict_setitem ?_ (args_dict_setitem _ _ _)))
  show wpAny _ _ (Builtin.Dict.notOrdered "__setitem__" ⟨[.ref d, key, v], []⟩ >>= _) _ _ s
  refine wpAny_bind (wpAny_notOrdered_dict hT ?_)
  show wpAny _ _ (dictSet d key v >>= _) _ _ s
  refine wpAny_bind ?_
  unfold dictSet
  try with_reducible refine wpAny_holding ?_
  refine wpAny_bind (pyHash_key hu hkey fun tk => ?_)
  unfold dictSetHashed
  try with_reducible refine wpAny_holding ?_
  refine wpAny_bind (dictFind_key (s := { s with toks := tk }) hu hkey ho rfl hx (fun _ => ?_) fun j p hj => absurd (List.mem_map.mpr ⟨_, List.mem_of_getElem? hj, rfl⟩) hno)
  refine wpAny_bind (wpAny_rule (wpAny_updateDictKeys (hz := by rw [List.size_toArray, List.length_map]; exact hsz) (s := { s with toks := tk }) ho rfl ?_))
  refine wpAny_pure ⟨.none, rfl, wpAny_pure (hQ _ tk ?_ (Heap.SameBut.update ..))⟩
  have e : Obj.mapDictKeys (fun a => a.push ⟨hashK w k, key, v⟩) (dictK w xs n) = dictK w (xs ++ [(k, key, v)]) (n + 1) := by
    simp [dictK, dictOf, Obj.mapDictKeys, entK]
  rw [← e]
  exact Heap.get?_update_self _ ho rfl

theorem eraseIdx_mapK {α β : Type} (f : α → β) : ∀ (l : List α) (j : Nat), (l.map f).eraseIdx j = (l.eraseIdx j).map f
  | [], _ => by simp
  | x :: l, 0 => by simp
  | x :: l, j + 1 => by simp [eraseIdx_mapK f l j]
theorem erase_filter {xs : Ents} (hn : (keysOf xs).Nodup) : ∀ {j : Nat} {k : Key} {p : Value × Value}, xs[j]? = some (k, p) → xs.eraseIdx j = xs.filter fun x => !decide (x.1 = k) := by
  induction xs with
  | nil => intro j k p h; simp at h
  | cons x rest ih =>
    intro j k p h
    rw [keysOf, List.map_cons, List.nodup_cons] at hn
    cases j with
    | zero =>
      simp only [List.getElem?_cons_zero, Option.some.injEq] at h
      subst h
      simp only [List.eraseIdx_cons_zero, List.filter_cons, decide_true, Bool.not_true, Bool.false_eq_true, if_false]
      refine (List.filter_eq_self.mpr fun y hy => ?_).symm
      have : y.1 ≠ k := fun e => hn.1 (List.mem_map.mpr ⟨y, hy, e⟩)
      simp [this]
    | succ j =>
      simp only [List.getElem?_cons_succ] at h
      have hmem : k ∈ rest.map (·.1) := List.mem_map.mpr ⟨(k, p), List.mem_of_getElem? h, rfl⟩
      have hne : ¬ x.1 = k := fun e => hn.1 (e ▸ hmem)
      simp only [List.eraseIdx_cons_succ, List.filter_cons, decide_eq_false hne, Bool.not_false, if_true]
      rw [ih hn.2 h]

def dropK (xs : Ents) (k : Key) : Ents := xs.filter fun x => !decide (x.1 = k)

theorem pop_key {v : Value} {Q : Value → Shared → Prop} (hu : A.in1.units < cLine) (hkey : IsKey prog w s.heap k key) (ho : s.heap.get? d = some (dictK w xs n)) (hx : Keyed prog w s.heap xs) (hv : look xs k = some v)
    (hQ : ∀ h' tk, h'.get? d = some (dictK w (dropK xs k) (n + 1)) → Heap.SameBut d s.heap h' → Q v { s with heap := h', toks := tk }) (hsz : xs.length ≤ sizeLine) :
    wpAny (model prog w) A (call (.builtin "dict.pop") [.ref d, key]) Q E s := by
  have hT := typeIs_dictK (s := s) ho
  refine wpAny_mono (wpAny_call_entry (Q := Q) F.slot_dict_pop hT F.entry_dict_pop ?_ (F.args_dict_pop_2 _ _)) (fun _ _ z => z) fun _ _ z => z
  unfold Builtin.«dict.pop»
  refine wpAny_bind ?_
  unfold Builtin.Dict.keyAndDefault
  refine wpAny_bind (wpAny_notOrdered_dict hT ?_)
  show wpAny _ _ (pure (d, key, none)) _ _ s
  refine wpAny_pure ?_
  have take : wpAny (model prog w) A.in1 (Builtin.Dict.takeOut d key) (fun r s' => ∃ h' tk, r = some (⟨hashK w k, (xs.find? fun x => decide (x.1 = k)).elim .none (·.2.1), v⟩ : DictEntry) ∧ s' = { s with heap := h', toks := tk } ∧ h'.get? d = some (dictK w (dropK xs k) (n + 1)) ∧ Heap.SameBut d s.heap h') (fun e s' => E e s') s := by
    unfold Builtin.Dict.takeOut
    try with_reducible refine wpAny_holding ?_
    refine wpAny_bind (pyHash_key hu hkey fun tk => wpAny_bind (dictFind_key (s := { s with toks := tk }) hu hkey ho rfl hx (fun h => ?_) fun j p hj => ?_))
    · rw [look_none_of_get h] at hv; cases hv
    · have hl := look_of_get hx.nodup hj
      rw [hv] at hl
      obtain ⟨pk, pv⟩ := p
      obtain rfl : v = pv := Option.some.inj hl
      refine wpAny_bind (wpAny_dictEntries (s := { s with toks := tk }) ho rfl ?_)
      rw [entK_at j, hj]
      refine wpAny_bind (wpAny_updateDictKeys (hz := by rw [List.size_toArray, List.length_map]; exact hsz) (s := { s with toks := tk }) ho rfl (wpAny_pure ⟨_, tk, ?_, rfl, ?_, Heap.SameBut.update ..⟩))
      · have hf : (xs.find? fun x => decide (x.1 = k)) = some (k, pk, v) := by
          have := hx.nodup
          clear hv hl hsz ho hx hQ
          induction xs generalizing j with
          | nil => simp at hj
          | cons x rest ih =>
            rw [keysOf, List.map_cons, List.nodup_cons] at this
            cases j with
            | zero =>
              simp only [List.getElem?_cons_zero, Option.some.injEq] at hj
              subst hj; simp
            | succ j =>
              simp only [List.getElem?_cons_succ] at hj
              have hmem : k ∈ rest.map (·.1) := List.mem_map.mpr ⟨_, List.mem_of_getElem? hj, rfl⟩
              have hne : ¬ x.1 = k := fun e => this.1 (e ▸ hmem)
              rw [List.find?_cons, decide_eq_false hne]
              exact ih j hj this.2
        rw [hf]; rfl
      · have e : Obj.mapDictKeys (fun a => a.eraseIdxIfInBounds j) (dictK w xs n) = dictK w (dropK xs k) (n + 1) := by
          unfold dropK
          rw [← erase_filter hx.nodup hj]
          simp [dictK, dictOf, Obj.mapDictKeys, eraseIdx_mapK]
        rw [← e]
        exact Heap.get?_update_self _ ho rfl
  have fin : wpAny (model prog w) A.in1 (do
      let old ← Builtin.Dict.takeOut d key
      if old.isNone then Builtin.Dict.missedRemoval d key
      match old, (none : Option Value) with
      | some e, _ => letGo [e.key] [e.val]; ret e.val
      | none, some x => rule "dict.pop.default"; ret x
      | none, none => rule "dict.pop.keyerror"; raiseNew (← newExc (.type "KeyError") [key])) (fun fin s' => ∃ r, fin = .done (.ret r) ∧ Q r s') E s := by
    refine wpAny_bind (wpAny_mono take (fun r s' hr => ?_) fun _ _ z => z)
    obtain ⟨h', tk, rfl, rfl, hg, hs⟩ := hr
    simp only [Option.isNone_some, Bool.false_eq_true, if_false]
    exact wpAny_bind (wpAny_letGo (wpAny_pure ⟨v, rfl, hQ h' tk hg hs⟩))
  cases hp : (keyPart key).isSome with
  | true =>
    simp only [hp, if_true]
    refine wpAny_bind (wpAny_pure ?_)
    simp only [Bool.false_eq_true, if_false]
    exact fin
  | false =>
    simp only [hp, Bool.false_eq_true, if_false]
    refine wpAny_bind (wpAny_dictEntries ho rfl (wpAny_bind (wpAny_pure ?_)))
    have hne : ((xs.map (entK w)).toArray.isEmpty) = false := by
      cases xs with
      | nil => simp [look] at hv
      | cons => rfl
    rw [hne]
    simp only [Bool.false_eq_true, if_false]
    exact fin

theorem get2_key {dflt : Value} {Q : Value → Shared → Prop} (hu : A.in1.units < cLine) (hkey : IsKey prog w s.heap k key) (hd : (d == sysModules) = false) (ho : s.heap.get? d = some (dictK w xs n)) (hx : Keyed prog w s.heap xs)
    (h : ∀ tk, Q ((look xs k).getD dflt) { s with toks := tk }) : wpAny (model prog w) A (call (.builtin "dict.get") [.ref d, key, dflt]) Q E s := by
  have hT := typeIs_dictK (s := s) ho
  refine wpAny_mono (wpAny_call_entry (Q := Q) F.slot_dict_get hT F.entry_dict_get ?_ (F.args_dict_get_3 _ _ _)) (fun _ _ z => z) fun _ _ z => z
  show wpAny _ _ (dictGet d key >>= _) _ _ s
  refine wpAny_bind (dictGet_key hu hkey ho hx fun tk => ?_)
  have h := h tk
  cases hf : look xs k with
  | some v => rw [hf] at h; exact wpAny_pure ⟨v, rfl, h⟩
  | none =>
    rw [hf] at h
    show wpAny _ _ (Builtin.Dict.missed d key >>= _) _ _ _
    exact wpAny_bind (wpAny_missed_other hd (wpAny_pure ⟨dflt, rfl, h⟩))

theorem method_dictK {name : PySem.Str} {id : String} {pl : Sem Bool} {Q : Value × List Value → Shared → Prop} (ho : s.heap.get? d = some (dictK w xs n)) (slot : Slot "dict" name id) (ht : typeOf (.builtin id) = pure (.type "method_descriptor"))
    (h : Q (.builtin id, [.ref d]) s) : wpAny (model prog w) A (getMethod (.ref d) name pl) Q E s :=
  getMethod_builtin (typeIs_dictK ho) PySem.F.plainAttrs_dict slot ht (fun b e => by injection e with e; subst e; exact ⟨_, ho, rfl⟩) h
end

theorem news_same {h₀ h h' : Heap} {L d : Addr} {m : Str → Option Value} {news news' : List (Addr × Obj)} {o o' : Obj} (F : Fr h₀ L h m) (N : News h₀ L h news) (U : Upd d o o' news news') (hs : Heap.SameBut d h h') (ho' : h'.get? d = some o') :
    Fr h₀ L h' m ∧ News h₀ L h' news' := by
  obtain ⟨pre, post, rfl, rfl, h1, h2⟩ := U.split
  have D := N (d, o) (List.mem_append_right _ (.head _))
  obtain ⟨oL, es, ep, hL, r⟩ := F.ns
  refine ⟨⟨⟨oL, es, ep, (hs.2 _ (Ne.symm D.2.1)).trans hL, r⟩, fun b x q => (hs.2 _ fun z => ?_).trans (F.keep b x q), F.above⟩, fun p hp => ?_⟩
  · have := D.2.2; rw [← z, q] at this; cases this
  · rcases List.mem_append.mp hp with q | q
    · have P := N p (List.mem_append_left _ q); exact ⟨(hs.2 _ (h1 p q)).trans P.1, P.2⟩
    · rcases List.mem_cons.mp q with rfl | q
      · exact ⟨ho', D.2⟩
      · have P := N p (List.mem_append_right _ (.tail _ q)); exact ⟨(hs.2 _ (h2 p q)).trans P.1, P.2⟩
end Mine
end
section
theorem Mine.off_Head : True := by w_top off; exact True.intro
open PySem PySem.W PyProof.Rows
namespace Mine
set_option maxRecDepth 100000 in
set_option maxHeartbeats 8000000 in
open_top hd for PySem.Challenge.rw_bb0035_01
end Mine
end
section
set_option maxRecDepth 100000
namespace Mine
open PySem PySem.W PySem.Spec PySem.Calls PyProof.Rows

/-- what stands in h and is not of the list stands in h' -/
def Keep (h h' : Heap) (as : List Addr) : Prop := ∀ a o, h.get? a = some o → a ∉ as → h'.get? a = some o
theorem Keep.refl (h : Heap) (as : List Addr) : Keep h h as := fun _ _ e _ => e
theorem Keep.trans {h h' h'' : Heap} {as bs : List Addr} (x : Keep h h' as) (y : Keep h' h'' bs) (hs : ∀ b ∈ bs, b ∈ as ∨ h.get? b = none) : Keep h h'' as := fun a o e n =>
  y a o (x a o e n) fun hb => (hs a hb).elim n fun q => by rw [q] at e; cases e
theorem Keep.weaken {h h' : Heap} {as bs : List Addr} (x : Keep h h' as) (hs : ∀ b ∈ as, b ∈ bs) : Keep h h' bs := fun a o e n => x a o e fun q => n (hs a q)

/-- each object of the ledger stood in the list, or is new -/
def NewIn (h : Heap) (news : List (Addr × Obj)) (as : List Addr) : Prop := ∀ p ∈ news, p.1 ∈ as ∨ h.get? p.1 = none
def LeaveT (h₀ : Heap) (L : Addr) (m : Str → Option Value) (hs : Heap) (ads : List Addr) (g : Heap) (R : Result → Shared → Prop) (v : Value) (s' : Shared) : Prop :=
  ∃ L' m' news', Fr g L' s'.heap m' ∧ News g L' s'.heap news' ∧ (Fr h₀ L s'.heap m → News h₀ L s'.heap news' → Keep hs s'.heap ads → NewIn hs news' ads → R (.ok (.ret v)) s')

theorem newIn_of {h h' : Heap} {L : Addr} {ads : List Addr} {news : List (Addr × Obj)} (N : News (hideAll h ads) L h' news) : NewIn h news ads := fun p hp => by
  by_cases hm : p.1 ∈ ads
  · exact .inl hm
  · refine .inr ?_
    cases q : h.get? p.1 with
    | none => rfl
    | some o => have := (N p hp).2.2; rw [hideAll_get _ q hm] at this; cases this
section
variable {prog : Program} {w : World} {A A₀ : Around} {s : Shared} {K : Frag} {L : Addr} {h₀ base : Heap} {m mg mb : Str → Option Value} {news : List (Addr × Obj)} {p : Program} {loose : List Str} {mean : ExcName → Option Value}

theorem code_T {env : Env} {outer : List Env} {R : Result → Shared → Prop} {name qual : Str} {params : Arguments} {body : List Stmt} {scope : Scope} {dV kV doc pm cdv ct oc : Value} {an od : Option Addr} {osl : Array (Option Value)} {f : Addr} {args : Args} {binds : List (Str × Value)}
    (B : Below A₀ base outer h₀) (F : Fr h₀ L s.heap m) (X₀ : K.In h₀) (N : News h₀ L s.heap news) (T : Top p loose mean mg mb h₀) (hA : A.frames = some (env :: outer)) (hf : env.frame = some L) (hke : env.scope.kind = .function)
    (ho : K.lookup f = some ⟨oc, od, .func (fnOf name qual params body scope dV kV doc pm an cdv ct), osl⟩) (hcd : codeIn K cdv qual = true) (hroom : A.depth < recursionLimit)
    (hbind : BindsTo s (fnOf name qual params body scope dV kV doc pm an cdv ct) args binds) (hloc : ∀ y ∈ binds, scope.names.lookup y.1 = some .local)
    (h : ∀ g L' h₁, Fr g L' h₁ (fun y => binds.reverse.lookup y) → News g L' h₁ news → Below A base (env :: outer) g → K.In g → Top p loose mean mg mb g → Keep s.heap g (news.map (·.1)) →
      wpAny (model prog w) (A.deeper (envOf qual scope L' f cdv)) (execs body (envOf qual scope L' f cdv))
        (fun fl s' => LeaveT h₀ L m s.heap (news.map (·.1)) g R (match fl with | .ret v => v | _ => .none) s')
        (fun e s' => wpAny (model prog w) (A.deeper (envOf qual scope L' f cdv)) (leaving (envOf qual scope L' f cdv) e) (fun _ s'' => R (.error e) s'') (fun e' s'' => R (.error e') s'') s')
        { s with heap := h₁, toks := s.toks + binds.length })
    (hco : scope.isCoroutine = false) (hgen : scope.isGenerator = false) (hk : scope.kind = .function)
    (hcell : ∀ x ∈ scope.names, x.2 ≠ .cell) : codeAny (model prog w) A (.call (.ref f) args) R s := by
  obtain ⟨FG, BG, st, lv⟩ := groundX (R := R) B F N hA hf hke
  refine codeAny_call_def (fd := fnOf name qual params body scope dV kV doc pm an cdv ct) (body := body) (binds := binds) hroom ((X₀.keeps F.keep) _ _ ho) rfl (T.nolimit.keeps F.keep) (codeRec_of (X₀.keeps F.keep) hcd) rfl hbind hcell hloc (fun h₁ hns hk₁ => ?_) hco hgen hk
  refine wpAny_mono (h _ s.heap.objs.size h₁ ⟨hns, fun b o e => hk₁ b o (of_hideAll _ e), Nat.le_of_eq (hideAll_size _ _)⟩
    (fun p hp => ⟨hk₁ _ _ (N p hp).1, Nat.ne_of_lt (Heap.lt_size (N p hp).1), hideAll_none _ (List.mem_map_of_mem hp)⟩) BG (X₀.keeps st) (T.keeps st) (fun a o e n => hideAll_get _ e n)) (fun fl s' hl => ?_) fun _ _ y => y
  obtain ⟨L', m', news', F', N', k⟩ := hl
  exact lv _ _ ⟨L', m', news', F', N', fun a b => k a b (fun x o e n => F'.keep x o (hideAll_get _ e n)) (newIn_of N')⟩
end

/-- the parts of a node's own dict -/
abbrev nodeD (P : Params) (t1 t2 t3 t4 t5 t6 : Tok) (prev nk key val cl : Value) : Obj := dictOf
  [⟨PyData.keyHash P (Str.ofString "prev"), .str (Str.ofString "prev") t1, prev⟩, ⟨PyData.keyHash P (Str.ofString "next_key"), .str (Str.ofString "next_key") t2, nk⟩,
   ⟨PyData.keyHash P (Str.ofString "key"), .str (Str.ofString "key") t3, key⟩, ⟨PyData.keyHash P (Str.ofString "value"), .str (Str.ofString "value") t4, val⟩,
   ⟨PyData.keyHash P (Str.ofString "cleanup"), .str (Str.ofString "cleanup") t5, cl⟩, ⟨PyData.keyHash P (Str.ofString "size"), .str (Str.ofString "size") t6, .none⟩] 6
abbrev cacheD (P : Params) (t1 t2 t3 t4 t5 : Tok) (d mru lru mx af : Value) : Obj := dictOf
  [⟨PyData.keyHash P (Str.ofString "_cache"), .str (Str.ofString "_cache") t1, d⟩, ⟨PyData.keyHash P (Str.ofString "_most_recently_used"), .str (Str.ofString "_most_recently_used") t2, mru⟩,
   ⟨PyData.keyHash P (Str.ofString "_least_recently_used"), .str (Str.ofString "_least_recently_used") t3, lru⟩, ⟨PyData.keyHash P (Str.ofString "_max_cache"), .str (Str.ofString "_max_cache") t4, mx⟩,
   ⟨PyData.keyHash P (Str.ofString "_after_cleanup_count"), .str (Str.ofString "_after_cleanup_count") t5, af⟩] 5
end Mine
end
section
set_option maxRecDepth 100000
namespace Mine
open PySem PySem.W PySem.Spec PySem.Calls PyProof.Rows

theorem lift_key {prog : Program} {w : World} {h₀ h g : Heap} {L : Addr} {news : List (Addr × Obj)} {k : Key} {v : Value} (x : IsKey prog w h k v) (kk : Keep h g (news.map (·.1))) (N : News h₀ L h news) (hc : ∀ p ∈ news, p.2.cls ≠ .type "tuple") : IsKey prog w g k v :=
  x.mono fun a o _ e c => kk a o e fun hm => by
    obtain ⟨p, hp, rfl⟩ := List.mem_map.mp hm
    have := (N p hp).1
    rw [e] at this
    exact hc p hp (by rw [← Option.some.inj this]; exact c)
theorem lift_keyed {prog : Program} {w : World} {h₀ h g : Heap} {L : Addr} {news : List (Addr × Obj)} {xs : Ents} (x : Keyed prog w h xs) (kk : Keep h g (news.map (·.1))) (N : News h₀ L h news) (hc : ∀ p ∈ news, p.2.cls ≠ .type "tuple") : Keyed prog w g xs :=
  ⟨fun y hy => lift_key (x.is y hy) kk N hc, x.nodup⟩
theorem IsKey.keeps {prog : Program} {w : World} {h h' : Heap} {k : Key} {v : Value} (x : IsKey prog w h k v) (hk : ∀ a o, h.get? a = some o → h'.get? a = some o) : IsKey prog w h' k v := x.mono fun a o _ e _ => hk a o e
theorem Keyed.keeps {prog : Program} {w : World} {h h' : Heap} {xs : Ents} (x : Keyed prog w h xs) (hk : ∀ a o, h.get? a = some o → h'.get? a = some o) : Keyed prog w h' xs := ⟨fun y hy => (x.is y hy).keeps hk, x.nodup⟩
theorem IsKey.handed {prog : Program} {w : World} {h : Heap} {k : Key} {v : Value} (x : IsKey prog w h k v) : handedIn v = true := by cases x <;> rfl

theorem off_of_nodup {ads rd : List Addr} (h : (ads ++ rd).Nodup) : ∀ a ∈ rd, a ∉ ads := fun a ha hb => (List.nodup_append.mp h).2.2 a hb a ha rfl
theorem look_isSome {xs : Ents} {k : Key} : (look xs k).isSome = decide (k ∈ keysOf xs) := by
  induction xs with
  | nil => rfl
  | cons x r ih =>
    by_cases h : x.1 = k
    · simp [look, keysOf, h]
    · have h' : ¬ k = x.1 := fun e => h e.symm
      have e1 : look (x :: r) k = look r k := by simp [look, List.find?_cons, h]
      rw [e1, ih]
      refine decide_eq_decide.mpr ⟨fun q => List.mem_cons_of_mem _ q, fun q => ?_⟩
      rcases List.mem_cons.mp q with e | q
      · exact absurd e h'
      · exact q
theorem look_some_mem {xs : Ents} {k : Key} {v : Value} (h : look xs k = some v) : k ∈ keysOf xs := by
  have := look_isSome (xs := xs) (k := k); rw [h] at this; simpa using this.symm
theorem look_none_iff {xs : Ents} {k : Key} : look xs k = none ↔ k ∉ keysOf xs := by
  have := look_isSome (xs := xs) (k := k)
  cases h : look xs k with
  | none => rw [h] at this; simpa using this.symm
  | some v => rw [h] at this; simp at this; simp [this]
theorem look_snoc {xs : Ents} {k : Key} {v : Value} (e : Key × Value × Value) (h : look xs k = some v) : look (xs ++ [e]) k = some v := by
  unfold look at *
  rw [List.find?_append]
  cases hf : xs.find? fun x => decide (x.1 = k) with
  | none => rw [hf] at h; cases h
  | some y => rw [hf] at h; simpa using h
theorem keyed_snoc {prog : Program} {w : World} {h : Heap} {xs : Ents} {k : Key} {key v : Value} (x : Keyed prog w h xs) (y : IsKey prog w h k key) (hno : k ∉ keysOf xs) : Keyed prog w h (xs ++ [(k, key, v)]) :=
  ⟨fun z hz => (List.mem_append.mp hz).elim (x.is z) fun q => by rw [List.mem_singleton.mp q]; exact y, by
    unfold keysOf
    rw [List.map_append, List.nodup_append]
    refine ⟨x.nodup, by simp, fun a ha b hb => ?_⟩
    simp only [List.map_cons, List.map_nil, List.mem_singleton] at hb
    subst hb
    exact fun e => hno (e ▸ ha)⟩
theorem keyed_drop {prog : Program} {w : World} {h : Heap} {xs : Ents} (x : Keyed prog w h xs) (k : Key) : Keyed prog w h (dropK xs k) :=
  ⟨fun z hz => x.is z (List.mem_filter.mp hz).1, (List.filter_sublist.map _).nodup x.nodup⟩
theorem dropK_len {xs : Ents} {k : Key} (hn : (keysOf xs).Nodup) (hk : k ∈ keysOf xs) : (dropK xs k).length + 1 = xs.length := by
  induction xs with
  | nil => cases hk
  | cons x r ih =>
    rw [keysOf, List.map_cons, List.nodup_cons] at hn
    by_cases h : x.1 = k
    · have : dropK r k = r := List.filter_eq_self.mpr fun y hy => by
        have : y.1 ≠ k := fun e => hn.1 (by rw [h, ← e]; exact List.mem_map.mpr ⟨y, hy, rfl⟩)
        simp [this]
      simp only [dropK, List.filter_cons, h, decide_true, Bool.not_true, Bool.false_eq_true, if_false, List.length_cons]
      rw [show (List.filter (fun x => !decide (x.fst = k)) r) = dropK r k from rfl, this]
    · have hk' : k ∈ keysOf r := by
        rcases List.mem_cons.mp hk with q | q
        · exact absurd q.symm h
        · exact q
      have := ih hn.2 hk'
      simp only [dropK, List.filter_cons, decide_eq_false h, Bool.not_false, if_true, List.length_cons] at *
      omega
/-- a call that the walk leaves to a contract -/
def held {α : Type} (t : Sem α) : Sem α := t
theorem Hold.intro {α : Type} {M : Model} {A : Around} {t : Sem α} {Q : α → Shared → Prop} {E : Value → Shared → Prop} {s : Shared} (h : wpAny M A (held t) Q E s) : wpAny M A t Q E s := h

/-- the ledger behind a contract: what it handed back, and what it did not touch -/
theorem news_app {h₀ h h' : Heap} {L : Addr} {full after rest : List (Addr × Obj)} {ads : List Addr} (N9 : News h₀ L h' after) (N : News h₀ L h full) (K9 : Keep h h' ads) (hs : ∀ p ∈ rest, p ∈ full) (ho : ∀ p ∈ rest, p.1 ∉ ads) : News h₀ L h' (after ++ rest) := fun p hp =>
  (List.mem_append.mp hp).elim (N9 p) fun h => ⟨K9 _ _ (N p (hs p h)).1 (ho p h), (N p (hs p h)).2⟩
theorem news_sub {h₀ h : Heap} {L : Addr} {full sub : List (Addr × Obj)} (N : News h₀ L h full) (hs : ∀ p ∈ sub, p ∈ full) : News h₀ L h sub := fun p hp => N p (hs p hp)

abbrev tupOf (vs : List Value) : Obj := { cls := .type "tuple", data := .seq vs.toArray }
theorem ne_of_cls {h₀ h : Heap} {L : Addr} {news : List (Addr × Obj)} {t l : Addr} {o ol : Obj} (N : News h₀ L h news) (h1 : (t, o) ∈ news) (h2 : (l, ol) ∈ news) (hne : o.cls ≠ ol.cls) : t ≠ l := fun e => by
  have a := (N _ h1).1
  have b := (N _ h2).1
  dsimp only at a b
  rw [e, b] at a
  exact hne (by rw [Option.some.inj a])
theorem ne_of_new {h : Heap} {news : List (Addr × Obj)} {ads : List Addr} {t l : Addr} {o ol : Obj} (Z : NewIn h news ads) (hm : (t, o) ∈ news) (hl : h.get? l = some ol) (hn : l ∉ ads) : t ≠ l := fun e => by
  rcases Z _ hm with q | q
  · exact hn (e ▸ q)
  · rw [show (t, o).1 = l from e, hl] at q; cases q
section
variable {prog : Program} {w : World} {A : Around} {E : Value → Shared → Prop} {s : Shared} {h₀ : Heap} {L d : Addr} {m : Str → Option Value} {news : List (Addr × Obj)} {n : Nat} {xs : Ents} {k : Key} {key v : Value} {Q : Value → Shared → Prop}
theorem sub_key {value slice : PySem.Expr} (F : Fr h₀ L s.heap m) (N : News h₀ L s.heap news) (hm : (d, dictK w xs n) ∈ news) (hkey : IsKey prog w h₀ k key) (hx : Keyed prog w h₀ xs) (hp : look xs k = some v) (hu : A.in1.units < cLine)
    (hs : subscripted slice false (.ref d) key = operate [.ref d, key] (getItem (.ref d) key)) (h : ∀ tk, Q v { s with toks := tk }) : wpAny (model prog w) A (subscriptTail value slice (.ref d) key) Q E s :=
  tail_any (typeIs_dictK (N.get hm)) slot_dict_getitem.lookup (getItem_key hu (hkey.keeps F.keep) (N.get hm) (hx.keeps F.keep) hp h) hs
theorem sub_missing {value slice : PySem.Expr} (F : Fr h₀ L s.heap m) (N : News h₀ L s.heap news) (hm : (d, dictK w xs n) ∈ news) (hkey : IsKey prog w h₀ k key) (hx : Keyed prog w h₀ xs) (hd : (d == sysModules) = false) (hh : A.handled = none) (hp : look xs k = none) (hu : A.in1.units < cLine)
    (hs : subscripted slice false (.ref d) key = operate [.ref d, key] (getItem (.ref d) key)) (h : ∀ h' e tk, Heap.NewExc s.heap h' e "KeyError" → E (.ref e) { s with heap := h', toks := tk }) : wpAny (model prog w) A (subscriptTail value slice (.ref d) key) Q E s :=
  tail_any (typeIs_dictK (N.get hm)) slot_dict_getitem.lookup (getItem_missing_key hu (hkey.keeps F.keep) hd hh (N.get hm) (hx.keeps F.keep) hp h) hs
theorem in_keyN (F : Fr h₀ L s.heap m) (N : News h₀ L s.heap news) (hm : (d, dictK w xs n) ∈ news) (hkey : IsKey prog w h₀ k key) (hx : Keyed prog w h₀ xs) (hd : (d == sysModules) = false) (hu : A.in1.units < cLine) (b : Bool) (hb : (look xs k).isSome = b)
    (h : ∀ tk, Q (.bool b) { s with toks := tk }) : wpAny (model prog w) A (compareOp .In key (.ref d)) Q E s := in_key hu (hkey.keeps F.keep) hd (N.get hm) (hx.keeps F.keep) (by rw [hb]; exact h)
theorem get2_keyN {dflt : Value} (F : Fr h₀ L s.heap m) (N : News h₀ L s.heap news) (hm : (d, dictK w xs n) ∈ news) (hkey : IsKey prog w h₀ k key) (hx : Keyed prog w h₀ xs) (hd : (d == sysModules) = false) (hu : A.in1.units < cLine) {r : Option Value} (hr : look xs k = r)
    (h : ∀ tk, Q (r.getD dflt) { s with toks := tk }) : wpAny (model prog w) A (call (.builtin "dict.get") [.ref d, key, dflt]) Q E s := get2_key hu (hkey.keeps F.keep) hd (N.get hm) (hx.keeps F.keep) (by rw [hr]; exact h)
theorem pop_keyN {news' : List (Addr × Obj)} (F : Fr h₀ L s.heap m) (N : News h₀ L s.heap news) (U : Upd d (dictK w xs n) (dictK w (dropK xs k) (n + 1)) news news') (hkey : IsKey prog w h₀ k key) (hx : Keyed prog w h₀ xs) (hu : A.in1.units < cLine) (hp : look xs k = some v) (hsz : xs.length ≤ sizeLine)
    (h : ∀ h' tk, Fr h₀ L h' m → News h₀ L h' news' → Q v { s with heap := h', toks := tk }) : wpAny (model prog w) A (call (.builtin "dict.pop") [.ref d, key]) Q E s := by
  have hm : (d, dictK w xs n) ∈ news := by obtain ⟨pre, post, rfl, _, _, _⟩ := U.split; exact List.mem_append_right _ (.head _)
  exact pop_key hu (hkey.keeps F.keep) (N.get hm) (hx.keeps F.keep) hp (fun h' tk hg hs => by obtain ⟨F', N'⟩ := news_same F N U hs hg; exact h h' tk F' N') hsz
theorem setItem_keyN {news' : List (Addr × Obj)} {Q : Unit → Shared → Prop} (F : Fr h₀ L s.heap m) (N : News h₀ L s.heap news) (U : Upd d (dictK w xs n) (dictK w (xs ++ [(k, key, v)]) (n + 1)) news news') (hkey : IsKey prog w h₀ k key) (hx : Keyed prog w h₀ xs) (hu : A.in1.units < cLine) (hp : k ∉ keysOf xs) (hsz : xs.length ≤ sizeLine)
    (h : ∀ h' tk, Fr h₀ L h' m → News h₀ L h' news' → Q () { s with heap := h', toks := tk }) : wpAny (model prog w) A (setItem (.ref d) key v) Q E s := by
  have hm : (d, dictK w xs n) ∈ news := by obtain ⟨pre, post, rfl, _, _, _⟩ := U.split; exact List.mem_append_right _ (.head _)
  exact setItem_new_key hu (hkey.keeps F.keep) (N.get hm) (hx.keeps F.keep) hp (fun h' tk hg hs => by obtain ⟨F', N'⟩ := news_same F N U hs hg; exact h h' tk F' N') hsz
theorem methodN {name : PySem.Str} {id : String} {pl : Sem Bool} {Q : Value × List Value → Shared → Prop} (N : News h₀ L s.heap news) (hm : (d, dictK w xs n) ∈ news) (slot : Slot "dict" name id) (ht : typeOf (.builtin id) = pure (.type "method_descriptor"))
    (h : Q (.builtin id, [.ref d]) s) : wpAny (model prog w) A (getMethod (.ref d) name pl) Q E s := method_dictK (N.get hm) slot ht h

theorem dict_len_key (hd : (d == sysModules) = false) : MeetsIn prog w (Builtin.«dict.__len__» ⟨[.ref d], []⟩) (fun _ R s => s.heap.get? d = some (dictK w xs n) ∧ R (.ok (.ret (.int xs.length s.toks))) { s with toks := s.toks + 1 }) :=
  .of_wp fun A R s ⟨ho, h⟩ => by
    show wpAny _ _ (dictSize d >>= _) _ _ s
    unfold dictSize
    refine wpAny_bind (wpAny_bind (wpAny_dictEntries ho rfl (wpAny_pure ?_)))
    show wpAny _ _ (Builtin.Dict.pendingCount d >>= _) _ _ s
    refine wpAny_bind (wpAny_pendingCount_other hd ?_)
    refine wpAny_ret_mkInt ?_
    rw [Nat.add_zero, List.size_toArray, List.length_map]; exact h
theorem len_key_body {Q : Value → Shared → Prop} (hd : (d == sysModules) = false) (ho : s.heap.get? d = some (dictK w xs n)) (hfit : (xs.length : Int) < 2 ^ 63) (h : ∀ tk tk', Q (.int xs.length tk) { s with toks := tk' }) :
    wpAny (model prog w) A (Builtin.«len» ⟨[.ref d], []⟩) (fun fin s' => ∃ r, fin = .done (.ret r) ∧ Q r s') E s := by
  have hT := typeIs_dictK (s := s) ho
  unfold Builtin.«len»
  refine wpAny_bind (m := oneArg "len" _) (wpAny_pure ?_)
  refine wpAny_bind (m := callSpecial? (.ref d) (Str.ofString "__len__")) (wpAny_callSpecial?_slot (name := Str.ofString "__len__") hT F.slot_dict_len
    (call_meetsIn F.slot_dict_len hT F.entry_dict_len (F.args_dict_len_1 _) (dict_len_key hd) ⟨ho, ?_⟩))
  show wpAny _ _ _ _ _ { s with toks := s.toks + 1 }
  refine wpAny_bind (wpAny_holding (wpAny_pure ?_))
  refine wpAny_bind (wpAny_letGo ?_)
  show wpAny _ _ (if ((xs.length : Nat) : Int) < 0 then _ else _) _ _ _
  rw [if_neg (by omega)]
  show wpAny _ _ (if ((xs.length : Nat) : Int) ≥ 2 ^ 63 then _ else _) _ _ _
  rw [if_neg (by omega)]
  exact wpAny_bind (wpAny_mkInt (wpAny_pure ⟨_, rfl, h _ _⟩))
theorem len_keyN (N : News h₀ L s.heap news) (hm : (d, dictK w xs n) ∈ news) (hd : (d == sysModules) = false) (hfit : (xs.length : Int) < 2 ^ 63) (h : ∀ tk tk', Q (.int xs.length tk) { s with toks := tk' }) :
    wpAny (model prog w) A (call (.builtin "len") [.ref d]) Q E s := Calls.call_function_entry kind_len plain_len entry_len (args_len1 _) (len_key_body hd (N.get hm) hfit h)
end

section
variable {M : Model} {A : Around} {E : Value → Shared → Prop} {s : Shared} {x y : Addr} {ox oy : Obj} {Q : Value → Shared → Prop}
theorem is_ref_ne (hxy : x ≠ y) (hx : s.heap.get? x = some ox) (hy : s.heap.get? y = some oy) (hnt : oy.cls ≠ .type "tuple") (h : Q (.bool false) s) : wpAny M A (compareOp .Is (.ref x) (.ref y)) Q E s := by
  show wpAny M A (do return .bool (← isSame (.ref x) (.ref y))) Q E s
  exact wpAny_bind (SeqAt.wpAny_isSame_ref_other' hxy hx hy hnt (wpAny_pure h))
theorem isNot_key_none {prog : Program} {w : World} {h : Heap} {k : Key} {v : Value} (x : IsKey prog w h k v) (hq : Q (.bool true) s) : wpAny M A (compareOp .IsNot v .none) Q E s := by
  show wpAny M A (do return .bool (!(← isSame v .none))) Q E s
  have e : isSame v .none = pure false := by cases x <;> rfl
  rw [e]
  exact wpAny_bind (wpAny_pure (wpAny_pure hq))
theorem is_key_none {prog : Program} {w : World} {h : Heap} {k : Key} {v : Value} (x : IsKey prog w h k v) (hq : Q (.bool false) s) : wpAny M A (compareOp .Is v .none) Q E s := by
  show wpAny M A (do return .bool (← isSame v .none)) Q E s
  have e : isSame v .none = pure false := by cases x <;> rfl
  rw [e]
  exact wpAny_bind (wpAny_pure (wpAny_pure hq))
end
end Mine
end
section
theorem Mine.off_Lam : True := by w_top off; exact True.intro
set_option maxRecDepth 100000
set_option linter.unusedVariables false
namespace Mine
open PySem PySem.W PySem.Spec PySem.Calls PyProof.Rows

/-! the lambda's parts, read off the program -/
def lamTree : PySem.Expr := match PySem.Challenge.pw_bb0035_01.main.body.getLast (by decide +kernel) with
  | .FunctionDef _ _ b .. => (match b.getD 4 (.Pass ⟨0, 0, 0, 0⟩) with
    | .FunctionDef _ _ b .. => (match b.getD 0 (.Pass ⟨0, 0, 0, 0⟩) with | .Return (some e) _ => e | _ => .Tuple [] 0 ⟨0, 0, 0, 0⟩)
    | _ => .Tuple [] 0 ⟨0, 0, 0, 0⟩)
  | _ => .Tuple [] 0 ⟨0, 0, 0, 0⟩
def lamParamsOf : PySem.Expr → Arguments
  | .Lambda a _ _ _ => a
  | _ => { posonlyargs := [], args := [], vararg := none, kwonlyargs := [], kw_defaults := [], kwarg := none, defaults := [] }
def lamBodyOf : PySem.Expr → PySem.Expr
  | .Lambda _ b _ _ => b
  | e => e
def lamScopeOf : PySem.Expr → Scope
  | .Lambda _ _ sc _ => sc
  | _ => { kind := .module, names := [], isGenerator := false, isCoroutine := false }
def lamPosOf : PySem.Expr → Pos
  | .Lambda _ _ _ p => p
  | _ => ⟨0, 0, 0, 0⟩
abbrev lamPos : Pos := Subtype.val (p := fun x => x = lamPosOf lamTree) ⟨_, by
  conv => rhs; whnf⟩
abbrev lamParams : Arguments := Subtype.val (p := fun x => x = lamParamsOf lamTree) ⟨_, by
  conv => rhs; whnf⟩
abbrev lamBody : PySem.Expr := Subtype.val (p := fun x => x = lamBodyOf lamTree) ⟨_, by
  conv => rhs; whnf⟩
abbrev lamScope : Scope := Subtype.val (p := fun x => x = lamScopeOf lamTree) ⟨_, by
  conv => rhs; whnf⟩

section
variable {prog : Program} {w : World} {A A₀ : Around} {s : Shared} {K : Frag} {L : Addr} {h₀ base : Heap} {m mg mb : Str → Option Value} {news : List (Addr × Obj)} {p : Program} {loose : List Str} {mean : ExcName → Option Value}
theorem lam_T {env : Env} {outer : List Env} {R : Result → Shared → Prop} {name qual : Str} {params : Arguments} {body : PySem.Expr} {scope : Scope} {cl : List (Str × Addr)} {pm ctv : Value} {c' : Addr} {f : Addr} {args : Args} {binds : List (Str × Value)}
    (B : Below A₀ base outer h₀) (F : Fr h₀ L s.heap m) (X₀ : K.In h₀) (N : News h₀ L s.heap news) (T : Top p loose mean mg mb h₀) (hA : A.frames = some (env :: outer)) (hf : env.frame = some L) (hke : env.scope.kind = .function)
    (ho : s.heap.get? f = some (kla_obj name qual params body scope cl pm c' ctv)) (hcd : s.heap.CodeRec (.ref c') qual) (hroom : A.depth < recursionLimit)
    (hbind : bindArgs (kla_fn name qual params body scope cl pm (.ref c') ctv) args = pure binds) (hloc : ∀ y ∈ binds, scope.names.lookup y.1 = some .local)
    (h : ∀ g L' h₁, Fr g L' h₁ (fun y => binds.reverse.lookup y) → News g L' h₁ news → Below A base (env :: outer) g → K.In g → Top p loose mean mg mb g → Keep s.heap g (news.map (·.1)) →
      wpAny (model prog w) (A.deeper (envX qual scope L' f (.ref c') cl)) (eval body (envX qual scope L' f (.ref c') cl))
        (fun v s' => LeaveT h₀ L m s.heap (news.map (·.1)) g R v s')
        (fun e s' => wpAny (model prog w) (A.deeper (envX qual scope L' f (.ref c') cl)) (leaving (envX qual scope L' f (.ref c') cl) e) (fun _ s'' => R (.error e) s'') (fun e' s'' => R (.error e') s'') s')
        { s with heap := h₁, toks := s.toks + binds.length })
    (hco : scope.isCoroutine = false) (hgen : scope.isGenerator = false) (hk : scope.kind = .function)
    (hcell : ∀ x ∈ scope.names, x.2 ≠ .cell) : codeAny (model prog w) A (.call (.ref f) args) R s := by
  obtain ⟨FG, BG, st, lv⟩ := groundX (R := R) B F N hA hf hke
  refine kla_callFunE hroom ho rfl hco hgen rfl hcd ?_
  rw [hbind]
  refine wpAny_pure (wpAny_newFunctionEnv hcell hloc (fun h₁ hns hsb => ⟨((T.nolimit).keeps F.keep).fresh _ hsb, ?_⟩) hk)
  show codeAny _ _ (.expr body (envX qual scope s.heap.objs.size f (.ref c') cl)) _ _
  have hk₁ : ∀ b o, s.heap.get? b = some o → h₁.get? b = some o := fun b o e => hsb.extBut b o (Nat.ne_of_lt (Heap.lt_size e)) (Heap.get?_push_of_some _ e)
  exact kla_codeExpr (wpAny_mono (h _ s.heap.objs.size h₁ ⟨hns, fun b o e => hk₁ b o (of_hideAll _ e), Nat.le_of_eq (hideAll_size _ _)⟩
    (fun p hp => ⟨hk₁ _ _ (N p hp).1, Nat.ne_of_lt (Heap.lt_size (N p hp).1), hideAll_none _ (List.mem_map_of_mem hp)⟩) BG (X₀.keeps st) (T.keeps st) (fun a o e n => hideAll_get _ e n)) (fun v s' hl => by
      obtain ⟨L', m', news', F', N', k⟩ := hl
      exact lv _ _ ⟨L', m', news', F', N', fun a b => k a b (fun x o e n => F'.keep x o (hideAll_get _ e n)) (newIn_of N')⟩) fun _ _ y => y)
end

section
variable {M : Model} {A : Around} {E : Value → Shared → Prop} {s : Shared} {h₀ : Heap} {L a c : Addr} {m : Str → Option Value} {cn : Str} {cs : Scope} {ccd : Value} {cl : List (Str × Addr)} {x : Str} {pos : Pos} {v : Value} {Q : Value → Shared → Prop} {o : Obj}
/-- a free name whose cell stands in the ground -/
theorem name_free (F : Fr h₀ L s.heap m) (hc : cl.lookup x = some c) (hg : h₀.get? c = some o) (hv : o.data = .cell (some v)) (h : Q v s)
    (hk : cs.kind = .function := by rfl) (hx : (envX cn cs L a ccd cl).kindOf x = some .free := by rfl) (hb : (x == ("__debug__" : Str)) = false := by decide) (hn : (x == ("__classdict__" : Str)) = false := by decide) :
    wpAny M A (eval (.Name x pos) (envX cn cs L a ccd cl)) Q E s := wpAny_Name (wpAny_loadName_free hk hx hc ⟨_, F.keep _ _ hg, hv⟩ h hn) hb
end
section
variable {prog : Program} {w : World} {A : Around} {E : Value → Shared → Prop} {s : Shared} {h₀ : Heap} {L l : Addr} {m : Str → Option Value} {vs : List Value} {k : Int} {u : Tok} {v : Value} {Q : Value → Shared → Prop}
/-- an item of a list that stands in the ground -/
theorem item_ground {value slice : PySem.Expr} (F : Fr h₀ L s.heap m) (hl : h₀.IsList l vs.toArray) (h0 : 0 ≤ k) (hhi : k < 2 ^ 63) (hx : vs[k.toNat]? = some v) (h : Q v s)
    (hs : subscripted slice false (.ref l) (.int k u) = operate [.ref l, .int k u] (getItem (.ref l) (.int k u))) :
    wpAny (model prog w) A (subscriptTail value slice (.ref l) (.int k u)) Q E s := by
  have hl' : s.heap.IsList l vs.toArray := hl.at fun o e => F.keep _ _ e
  exact tail_any hl'.typeIs slot_list_getitem.lookup (wpAny_getItem_list hl' h0 hhi (by simpa using hx) h) hs
end
section
variable {M : Model} {A : Around} {E : Value → Shared → Prop} {s : Shared} {env : Env} {pos : Pos} {f : Addr} {o : Obj} {fd : FuncData} {first : List Value} {Q : Value → Shared → Prop} {h₀ : Heap}
/-- a call of a function that stands in the ground -/
theorem callWith_fn {e : PySem.Expr} {rest : List PySem.Expr} (_hg : h₀.get? f = some o) (hd : o.data = .func fd) (h : wpAny M A (spliced (backTo pos (starEach (e :: rest) env))) (fun vs s₁ => s₁.heap.get? f = some o ∧ wpAny M A (call (.ref f) (first ++ vs)) Q E s₁) E s)
    (he : starEach (e :: rest) env = (false, eval e env) :: starEach rest env := by rfl) (hplain : (backTo pos (starEach rest env)).any (·.1) = false := by rfl) :
    wpAny M A (callWith pos (.ref f) first (backTo pos (starEach (e :: rest) env)) []) Q E s := by
  rw [he] at h ⊢
  refine callWith_of (P := fun h => h.get? f = some o) (by show ((false || (backTo pos (starEach rest env)).any (·.1)) || false) = false; rw [hplain]; rfl) (fun h x => ⟨.frame, .inl rfl, (Looks.ld (part := none) x).andThen ?_⟩) (evalArgs_plain h)
  rw [hd]
  exact .now
end
theorem ne_of_ground {h₀ h : Heap} {L : Addr} {news : List (Addr × Obj)} {t l : Addr} {o ol : Obj} (N : News h₀ L h news) (hm : (t, o) ∈ news) (hl : h₀.get? l = some ol) : t ≠ l := fun e => by
  have := (N _ hm).2.2
  rw [show (t, o).1 = l from e, hl] at this; cases this
theorem isList_keep {h h' : Heap} {l : Addr} {its : Array Value} (x : h.IsList l its) (hk : ∀ a o, h.get? a = some o → h'.get? a = some o) : h'.IsList l its := let ⟨o, ho, r⟩ := x; ⟨o, hk _ _ ho, r⟩

/-- what a teller's function needs that is only read: the function, its code, its two cells, the list of lists -/
structure TellerAt (h : Heap) (f : Addr) (k : Int) (gk : Addr) (qual : Str) (pm ctv : Value) (c' cg ck lg : Addr) (gs : List Value) : Prop where
  fn : h.get? f = some (kla_obj "<lambda>" qual lamParams lamBody lamScope [("k", ck), ("gone", cg)] pm c' ctv)
  code : h.CodeRec (.ref c') qual
  gone : ∃ og, h.get? cg = some og ∧ og.data = .cell (some (.ref lg))
  kc : ∃ ok tk, h.get? ck = some ok ∧ ok.data = .cell (some (.int k tk))
  list : h.IsList lg gs.toArray
  at_ : gs[k.toNat]? = some (.ref gk)
  lo : 0 ≤ k
  hi : k < 2 ^ 63
theorem TellerAt.keep {h h' : Heap} {f : Addr} {k : Int} {gk : Addr} {qual : Str} {pm ctv : Value} {c' cg ck lg : Addr} {gs : List Value} (x : TellerAt h f k gk qual pm ctv c' cg ck lg gs) (hk : ∀ a ∈ [f, c', cg, ck, lg], ∀ o, h.get? a = some o → h'.get? a = some o) : TellerAt h' f k gk qual pm ctv c' cg ck lg gs where
  fn := hk _ (by simp) _ x.fn
  code := by
    obtain ⟨c₂, oc, vs, t, e2, hoc, hd, hv⟩ := x.code
    cases e2
    exact ⟨c', oc, vs, t, rfl, hk _ (by simp) _ hoc, hd, hv⟩
  gone := let ⟨og, a, b⟩ := x.gone; ⟨og, hk _ (by simp) _ a, b⟩
  kc := let ⟨ok, tk, a, b⟩ := x.kc; ⟨ok, tk, hk _ (by simp) _ a, b⟩
  list := let ⟨o, ho, r⟩ := x.list; ⟨o, hk _ (by simp) _ ho, r⟩
  at_ := x.at_
  lo := x.lo
  hi := x.hi
theorem TellerAt.lift {h h' : Heap} {f : Addr} {k : Int} {gk : Addr} {qual : Str} {pm ctv : Value} {c' cg ck lg : Addr} {gs : List Value} (x : TellerAt h f k gk qual pm ctv c' cg ck lg gs) {ads : List Addr} (kk : Keep h h' ads) (off : ∀ a ∈ [f, c', cg, ck, lg], a ∉ ads) : TellerAt h' f k gk qual pm ctv c' cg ck lg gs :=
  x.keep fun a ha o e => kk a o e (off a ha)
theorem TellerAt.keeps {h h' : Heap} {f : Addr} {k : Int} {gk : Addr} {qual : Str} {pm ctv : Value} {c' cg ck lg : Addr} {gs : List Value} (x : TellerAt h f k gk qual pm ctv c' cg ck lg gs) (hk : ∀ a o, h.get? a = some o → h'.get? a = some o) : TellerAt h' f k gk qual pm ctv c' cg ck lg gs :=
  x.keep fun a _ o e => hk a o e


theorem code_get {h : Heap} {c : Addr} {q : Str} (x : h.CodeRec (.ref c) q) : ∃ o, h.get? c = some o := by
  obtain ⟨c₂, oc, vs, t, e2, hoc, _⟩ := x
  cases e2
  exact ⟨oc, hoc⟩
theorem fillL : (PySem.Challenge.rw_bb0035_01 = PySem.Challenge.rw_bb0035_01) ∧ (hd.heap_39 = hd.heap_39) := by k_fill; exact ⟨rfl, rfl⟩
local macro_rules | `(tactic| k_ne) => `(tactic| first | (refine neN ?_; (try dsimp only); first | with_reducible assumption | exact Ne.symm (by with_reducible assumption)))
local macro_rules | `(tactic| walk_at "eval Name") => `(tactic| (k_here; k_dflt (refine' name_free ?F ?c ?g ?v ?_ ?a ?b; (case a => rfl); (case b => rfl); (case F => k_asm); (case c => rfl); (case g => k_asm); (case v => k_asm); k_whole)))
local macro_rules | `(tactic| walk_at "subscriptTail") => `(tactic| (k_here; (with_reducible show wpAny _ _ (subscriptTail _ _ (Value.ref _) (Value.int _ _)) _ _ _); k_dflt (refine' item_ground ?F ?l ?a ?b ?c ?_ ?d; (case F => k_asm); (case l => k_asm); (case a => k_asm); (case b => k_asm); (case c => k_asm); (case d => with_unfolding_all rfl); k_whole)))
section
variable {prog : Program} {w : World} {p : Program} {loose : List Str} {mean : ExcName → Option Value} {mg mb : Str → Option Value}
set_option maxHeartbeats 4000000 in
theorem lam_call {dp un : Nat} {gd : Option (List Code)} {cn : Str} {cs : Scope} {a : Addr} {ccd : Value} {cl : List (Str × Addr)} {outer : List Env} {A₀ : Around} {base h₀ : Heap} {L : Addr} {m : Str → Option Value} {s : Shared} {Q E : Value → Shared → Prop}
    {f gk c' cg ck lg : Addr} {k : Int} {qual : Str} {pm ctv key val : Value} {gs : List Value} {its : Array Value} {ng : Nat}
    (B : Below A₀ base outer h₀) (F : Fr h₀ L s.heap m) (X : (hd.heap_39 w.params).In h₀) (T : Top p loose mean mg mb h₀) (hk : cs.kind = .function) (hd : dp + 5 < recursionLimit) (hu : un + 100 < cLine)
    (tl : TellerAt s.heap f k gk qual pm ctv c' cg ck lg gs) (off : ∀ a ∈ [f, c', cg, ck, lg], a ∉ [gk]) (hsz : its.size ≤ sizeLine)
    (N : News h₀ L s.heap [(gk, listOf its ng)])
    (ret : ∀ h' tk' t, Fr h₀ L h' m → News h₀ L h' [(t, tupOf [key, val]), (gk, listOf (its.push (.ref t)) (ng + 1))] → Keep s.heap h' [gk] → NewIn s.heap [(t, tupOf [key, val]), (gk, listOf (its.push (.ref t)) (ng + 1))] [gk] → Q .none { s with heap := h', toks := tk' }) :
    wpAny (model prog w) (ktrTop dp un gd cn cs L a ccd cl outer) (call (.ref f) [key, val]) Q E s := by
  refine wpAny_call ?_
  refine lam_T B F X N T rfl rfl hk tl.fn tl.code (by show dp < recursionLimit; omega) rfl (locs rfl) ?_ rfl rfl rfl (by decide)
  intro g' L' h' F' N' B' X' T' kk'
  have tl9 := tl.lift kk' off
  obtain ⟨_, _, ⟨og, h1, h2⟩, ⟨ok, tk, h3, h4⟩, h5, h6, h7, h8⟩ := tl9
  try dsimp only
  try k_fold
  k_steps
  all_goals (
    try dsimp only
    try (k_unfold; try dsimp only)
    exact ⟨_, _, _, by assumption, by assumption, fun kF kN kk kf => ret _ _ _ kF kN kk kf⟩)
end
end Mine
end
section
set_option maxRecDepth 100000
set_option linter.unusedVariables false
namespace Mine
open PySem PySem.W PySem.Spec PySem.Calls PyProof.Rows

/-- what stands for one entry of a cache -/
structure Rec where
  x : Addr
  dx : Addr
  key : Key
  kv : Value
  i : Int
  vt : Tok
  f : Addr
def adr : List Rec → List Addr
  | [] => []
  | r :: rs => r.x :: r.dx :: adr rs
theorem adr_append (A B : List Rec) : adr (A ++ B) = adr A ++ adr B := by
  induction A with
  | nil => rfl
  | cons r A ih => simp [adr, ih]
theorem mem_adr {A : List Rec} {a : Addr} : a ∈ adr A ↔ ∃ r ∈ A, a = r.x ∨ a = r.dx := by
  induction A with
  | nil => simp [adr]
  | cons r A ih => simp [adr, ih, or_assoc]
def firstK (n : Value) : List Rec → Value
  | [] => n
  | r :: _ => r.kv
def firstRef : List Rec → Value
  | [] => .none
  | r :: _ => .ref r.x
def lastRef (p : Value) : List Rec → Value
  | [] => p
  | r :: rs => lastRef (.ref r.x) rs
theorem lastRef_append (p : Value) (A B : List Rec) : lastRef p (A ++ B) = lastRef (lastRef p A) B := by
  induction A generalizing p with
  | nil => rfl
  | cons r A ih => exact ih _
theorem firstK_append (n : Value) (A B : List Rec) : firstK n (A ++ B) = firstK (firstK n B) A := by cases A <;> rfl

def NodeAt (P : Params) (h : Heap) (r : Rec) (prev nk : Value) : Prop :=
  h.get? r.x = some (instObj 53 r.dx) ∧ ∃ t1 t2 t3 t4 t5 t6, h.get? r.dx = some (nodeD P t1 t2 t3 t4 t5 t6 prev nk r.kv (.int r.i r.vt) (.ref r.f))
def Seg (P : Params) (h : Heap) : Value → List Rec → Value → Prop
  | _, [], _ => True
  | p, r :: rs, n => NodeAt P h r p (firstK n rs) ∧ Seg P h (.ref r.x) rs n
theorem seg_append {P : Params} {h : Heap} {p n : Value} {A B : List Rec} : Seg P h p (A ++ B) n ↔ Seg P h p A (firstK n B) ∧ Seg P h (lastRef p A) B n := by
  induction A generalizing p with
  | nil => simp [Seg, lastRef]
  | cons r A ih =>
    simp only [List.cons_append, Seg, lastRef, ih, firstK_append, and_assoc]
theorem NodeAt.keep {P : Params} {h h' : Heap} {r : Rec} {p n : Value} (x : NodeAt P h r p n) (hk : ∀ a ∈ [r.x, r.dx], ∀ o, h.get? a = some o → h'.get? a = some o) : NodeAt P h' r p n :=
  let ⟨a, t1, t2, t3, t4, t5, t6, b⟩ := x; ⟨hk _ (by simp) _ a, t1, t2, t3, t4, t5, t6, hk _ (by simp) _ b⟩
theorem Seg.keep {P : Params} {h h' : Heap} {p n : Value} {A : List Rec} (x : Seg P h p A n) (hk : ∀ a ∈ adr A, ∀ o, h.get? a = some o → h'.get? a = some o) : Seg P h' p A n := by
  induction A generalizing p with
  | nil => trivial
  | cons r A ih => exact ⟨x.1.keep fun a ha o e => hk a (by rcases List.mem_cons.mp ha with rfl | ha; exact .head _; rcases List.mem_cons.mp ha with rfl | ha; exact .tail _ (.head _); cases ha) o e, ih x.2 fun a ha o e => hk a (by simp [adr, ha]) o e⟩

def IsKeyW (prog : Program) (w : World) (h : Heap) (ow : Addr → Nat) (k : Key) (v : Value) : Prop := IsKey prog w h k v ∧ ∀ a, v = .ref a → ow a = 98
/-- what is not owned by k stands -/
def KeepW (ow : Addr → Nat) (k : Nat) (h h' : Heap) : Prop := ∀ a o, h.get? a = some o → ow a ≠ k → h'.get? a = some o
theorem KeepW.of {ow : Addr → Nat} {k : Nat} {h h' : Heap} {T : List Addr} (x : Keep h h' T) (hT : ∀ a ∈ T, ow a = k) : KeepW ow k h h' := fun a o e n => x a o e fun hm => n (hT a hm)
theorem IsKeyW.keep {prog : Program} {w : World} {h h' : Heap} {ow : Addr → Nat} {k : Nat} {q : Key} {v : Value} (x : IsKeyW prog w h ow q v) (hk : KeepW ow k h h') (h98 : k ≠ 98) : IsKeyW prog w h' ow q v :=
  ⟨x.1.mono fun a o e g _ => hk a o g (by rw [x.2 a e]; exact Ne.symm h98), x.2⟩

structure CacheAt (prog : Program) (w : World) (h : Heap) (ow : Addr → Nat) (k : Nat) (h₀ : Heap) (L : Addr) (M : Int) (gk c dc d : Addr) (recs : List Rec) : Prop where
  inst : h.get? c = some (instObj 189 dc)
  dict : ∃ t1 t2 t3 t4 t5 tm ta, h.get? dc = some (cacheD w.params t1 t2 t3 t4 t5 (.ref d) (firstRef recs) (lastRef .none recs) (.int M tm) (.int M ta))
  ents : ∃ xs n, h.get? d = some (dictK w xs n) ∧ Keyed prog w h xs ∧ (∀ e ∈ xs, ∀ a, e.2.1 = .ref a → ow a = 98) ∧ xs.length = recs.length ∧ ∀ r ∈ recs, look xs r.key = some (.ref r.x)
  seg : Seg w.params h .none recs .none
  keys : ∀ r ∈ recs, IsKeyW prog w h ow r.key r.kv
  tell : ∀ r ∈ recs, ∃ qual pm ctv c' cg ck lg gs, TellerAt h r.f k gk qual pm ctv c' cg ck lg gs ∧ ∀ a ∈ [r.f, c', cg, ck, lg], ow a = 98
  own : ∀ a ∈ c :: dc :: d :: adr recs, ow a = k ∧ a ≠ L ∧ h₀.get? a = none
  nodup : (c :: dc :: d :: adr recs).Nodup
  sysd : (d == sysModules) = false
  nodupK : (recs.map (·.key)).Nodup
  small : recs.length ≤ 100

theorem off_mid {pre mid post T : List Addr} (h : (pre ++ (mid ++ post)).Nodup) (hT : ∀ a ∈ T, a ∈ pre ∨ a ∈ post) : ∀ a ∈ mid, a ∉ T := fun a ha hb => by
  obtain ⟨_, h2, h3⟩ := List.nodup_append.mp h
  rcases hT a hb with q | q
  · exact h3 a q a (List.mem_append_left _ ha) rfl
  · exact (List.nodup_append.mp h2).2.2 a ha a q rfl
end Mine
end
section
theorem Mine.off_Walk2 : True := by w_top off; exact True.intro
set_option maxRecDepth 100000
set_option linter.unusedVariables false
namespace Mine
open PySem PySem.W PySem.Spec PySem.Calls PyProof.Rows
theorem fillB : (PySem.Challenge.rw_bb0035_01 = PySem.Challenge.rw_bb0035_01) ∧ (hd.heap_39 = hd.heap_39) := by k_fill; exact ⟨rfl, rfl⟩

local macro_rules | `(tactic| k_ne) => `(tactic| first | (refine neN ?_; (try dsimp only); first | with_reducible assumption | exact Ne.symm (by with_reducible assumption)))
local macro_rules | `(tactic| ktr_enter) => `(tactic| (refine' code_T ?k1 ?k2 ?k3 ?k4 ?k5 ?kA ?kF ?kK ?k6 ?k7 ?k8 ?k9 ?kB ?_ ?c2 ?c3 ?c4 ?c5; (case kA => exact rfl); (case kF => exact rfl); (case kK => assumption); (case k1 => k_asm); (case k2 => k_asm); (case k3 => k_asm); (case k4 => k_asm); (case k5 => k_asm); (case k6 => k_is); (case k7 => k_is); (case k8 => ktr_room); (case k9 => first | exact BindsTo.of_eq rfl | exact binds_K (by k_in) rfl (by k_is) rfl rfl rfl); (case c5 => decide); (case kB => exact locs rfl); (case c2 => exact rfl); (case c3 => exact rfl); (case c4 => exact rfl); k_whole; intro g' L' h' F' N' B' X' T' kk'; (try dsimp only); (try k_fold)))
local macro_rules | `(tactic| k_room) => `(tactic| ktr_room)
local macro_rules | `(tactic| k_units) => `(tactic| ktr_units)
local macro_rules | `(tactic| k_handed) => `(tactic| with_reducible assumption)
local macro_rules | `(tactic| walk_at "subscriptTail") => `(tactic| (k_here; (with_reducible show wpAny _ _ (subscriptTail _ _ (Value.ref _) _) _ _ _); k_dflt (refine' sub_key ?k1 ?k2 ?k3 ?k4 ?k5 ?k6 ?k7 ?k8 ?_; (case k1 => k_asm); (case k2 => k_asm); (case k3 => k_mem); (case k4 => k_asm); (case k5 => k_asm); (case k6 => k_asm); (case k7 => ktr_units); (case k8 => with_unfolding_all rfl); k_whole); intro tk9))
local macro_rules | `(tactic| walk_at "compareOp IsNot") => `(tactic| (k_here; (with_reducible show wpAny _ _ (compareOp CmpOp.IsNot _ Value.none) _ _ _); k_dflt (refine' isNot_key_none ?a ?_; (case a => with_reducible assumption); k_whole)))
local macro_rules | `(tactic| walk_at "compareOp Is") => `(tactic| (k_here; (with_reducible show wpAny _ _ (compareOp CmpOp.Is _ Value.none) _ _ _); k_dflt (refine' is_key_none ?a ?_; (case a => with_reducible assumption); k_whole)))
local macro_rules | `(tactic| walk_at "compareOp Is ref ref") => `(tactic| (k_here; (with_reducible show wpAny _ _ (compareOp CmpOp.Is (Value.ref _) (Value.ref _)) _ _ _); k_dflt (refine' is_ref_ne ?a ?b ?c ?d ?_; (case a => first | with_reducible assumption | exact Ne.symm (by with_reducible assumption)); (case b => first | exact News.get (by k_asm) (by k_mem) | exact Fr.keep (by k_asm) _ _ (by with_reducible assumption)); (case c => first | exact News.get (by k_asm) (by k_mem) | exact Fr.keep (by k_asm) _ _ (by with_reducible assumption)); (case d => intro q9; cases q9); k_whole)))
local macro_rules | `(tactic| walk_at "compareOp In") => `(tactic| (k_here; (with_reducible show wpAny _ _ (compareOp CmpOp.In _ (Value.ref _)) _ _ _); k_dflt (refine' in_keyN ?k1 ?k2 ?k3 ?k4 ?k5 ?k6 ?k7 _ ?k8 ?_; (case k1 => k_asm); (case k2 => k_asm); (case k3 => k_mem); (case k4 => k_asm); (case k5 => k_asm); (case k6 => k_asm); (case k7 => ktr_units); (case k8 => with_reducible assumption); k_whole); intro tk9))
local macro_rules | `(tactic| walk_at "call builtin:len") => `(tactic| (k_here; (with_reducible show wpAny _ _ (call (Value.builtin "len") [Value.ref _]) _ _ _); k_dflt (refine' len_keyN ?k1 ?k2 ?k3 ?k4 ?_; (case k1 => k_asm); (case k2 => k_mem); (case k3 => k_asm); (case k4 => first | with_reducible assumption | (simp only [List.length_append, List.length_cons, List.length_nil]; omega) | omega); k_whole); intro tk8 tk9))
local macro_rules | `(tactic| walk_at "getMethod ref") => `(tactic| (k_here; (with_reducible show wpAny _ _ (getMethod (Value.ref _) (Str.ofString "get") _) _ _ _); k_dflt (refine' methodN ?k1 ?k2 PySem.F.slot_dict_get PySem.F.type_dict_get ?_; (case k1 => k_asm); (case k2 => k_mem); k_whole)))
local macro_rules | `(tactic| walk_at "getMethod ref") => `(tactic| (k_here; (with_reducible show wpAny _ _ (getMethod (Value.ref _) (Str.ofString "pop") _) _ _ _); k_dflt (refine' methodN ?k1 ?k2 PySem.F.slot_dict_pop PySem.F.type_dict_pop ?_; (case k1 => k_asm); (case k2 => k_mem); k_whole)))
local macro_rules | `(tactic| walk_at "call builtin:dict.get") => `(tactic| (k_here; (with_reducible show wpAny _ _ (call (Value.builtin _) [Value.ref _, _, _]) _ _ _); k_dflt (refine' get2_keyN ?k1 ?k2 ?k3 ?k4 ?k5 ?k6 ?k7 ?k8 ?_; (case k1 => k_asm); (case k2 => k_asm); (case k3 => k_mem); (case k4 => k_asm); (case k5 => k_asm); (case k6 => k_asm); (case k7 => ktr_units); (case k8 => k_asm); k_whole); intro tk9; (try dsimp only [Option.getD])))
local macro_rules | `(tactic| walk_at "call builtin:dict.pop") => `(tactic| (k_here; (with_reducible show wpAny _ _ (call (Value.builtin _) [Value.ref _, _]) _ _ _); k_dflt (refine' pop_keyN ?k1 ?k2 ?k3 ?k4 ?k5 ?k6 ?k7 ?k8 ?_; (case k1 => k_asm); (case k2 => k_asm); (case k3 => k_upd); (case k4 => k_asm); (case k5 => k_asm); (case k6 => ktr_units); (case k7 => k_asm); (case k8 => k_asm); k_whole); intro h9 tk9 F' N'; (try k_sweep)))
local macro_rules | `(tactic| walk_at "setItem ref") => `(tactic| (k_here; (with_reducible show wpAny _ _ (setItem (Value.ref _) _ _) _ _ _); k_dflt (refine' setItem_keyN ?k1 ?k2 ?k3 ?k4 ?k5 ?k6 ?k7 ?k8 ?_; (case k1 => k_asm); (case k2 => k_asm); (case k3 => k_upd); (case k4 => k_asm); (case k5 => k_asm); (case k6 => ktr_units); (case k7 => k_asm); (case k8 => k_asm); k_whole); intro h9 tk9 F' N'; (try k_sweep)))

section
variable {prog : Program} {w : World} {p : Program} {loose : List Str} {mean : ExcName → Option Value} {mg mb : Str → Option Value}

set_option maxHeartbeats 4000000 in
theorem gi_mru {dp un : Nat} {gd : Option (List Code)} {cn : Str} {cs : Scope} {a : Addr} {ccd : Value} {cl : List (Str × Addr)} {outer : List Env} {A₀ : Around} {base h₀ : Heap} {L : Addr} {m : Str → Option Value} {s : Shared} {Q E : Value → Shared → Prop}
    {tc1 tc2 tc3 tc4 tc5 : Tok} {tx1 tx2 tx3 tx4 tx5 tx6 : Tok} {c dc d : Addr} {mx af : Value} {xs : Ents} {n : Nat} {x dx : Addr} {xp xn xk xv xc : Value} {lru : Value} {kx : Key} {key : Value}
    (B : Below A₀ base outer h₀) (F : Fr h₀ L s.heap m) (X : (hd.heap_39 w.params).In h₀) (T : Top p loose mean mg mb h₀) (hk : cs.kind = .function) (hd : dp + 20 < recursionLimit) (hu : un + 200 < cLine) (hn : [c, dc, d, x, dx].Nodup)
    (hx : Keyed prog w s.heap xs) (hkx : IsKey prog w s.heap kx key) (hlx : look xs kx = some (.ref x)) (hhv : handedIn xv = true) 
    (N : News h₀ L s.heap [(c, instObj 189 dc),
      (dc, cacheD w.params tc1 tc2 tc3 tc4 tc5 (.ref d) (.ref x) lru mx af),
      (d, dictK w xs n),
      (x, instObj 53 dx),
      (dx, nodeD w.params tx1 tx2 tx3 tx4 tx5 tx6 xp xn xk xv xc)])
    (ret : ∀ h' tk' , Fr h₀ L h' m → News h₀ L h' [(c, instObj 189 dc),
      (dc, cacheD w.params tc1 tc2 tc3 tc4 tc5 (.ref d) (.ref x) lru mx af),
      (d, dictK w xs n),
      (x, instObj 53 dx),
      (dx, nodeD w.params tx1 tx2 tx3 tx4 tx5 tx6 xp xn xk xv xc)] → Keep s.heap h' [c, dc, d, x, dx] → Q xv { s with heap := h', toks := tk' }) :
    wpAny (model prog w) (ktrTop dp un gd cn cs L a ccd cl outer) (call (.ref 86) [.ref c, key]) Q E s := by
  have hn0 := hn
  simp only [List.nodup_cons, List.mem_cons, List.not_mem_nil, or_false, not_or, List.nodup_nil, not_false_eq_true, and_true] at hn
  obtain ⟨⟨n_0_1, n_0_2, n_0_3, n_0_4⟩, ⟨n_1_2, n_1_3, n_1_4⟩, ⟨n_2_3, n_2_4⟩, n_3_4⟩ := hn
  refine wpAny_call ?_
  k_dflt ktr_enter
  rename_i g' L' h' F' N' B' X' T' kk'
  have hc9 : ∀ q9 ∈ ([(c, instObj 189 dc),
      (dc, cacheD w.params tc1 tc2 tc3 tc4 tc5 (.ref d) (.ref x) lru mx af),
      (d, dictK w xs n),
      (x, instObj 53 dx),
      (dx, nodeD w.params tx1 tx2 tx3 tx4 tx5 tx6 xp xn xk xv xc)] : List (Addr × Obj)), q9.2.cls ≠ .type "tuple" := by simp only [List.forall_mem_cons]; simp
  have hx9 := lift_keyed hx kk' N hc9
  have hkx9 := lift_key hkx kk' N hc9
  clear hc9
  k_steps
  all_goals (
    try dsimp only
    try (k_unfold; try dsimp only)
    exact ⟨_, _, _, by assumption, by assumption, fun kF kN kk _ => ret _ _ kF kN kk⟩)

set_option maxHeartbeats 4000000 in
theorem gi_last1 {dp un : Nat} {gd : Option (List Code)} {cn : Str} {cs : Scope} {a : Addr} {ccd : Value} {cl : List (Str × Addr)} {outer : List Env} {A₀ : Around} {base h₀ : Heap} {L : Addr} {m : Str → Option Value} {s : Shared} {Q E : Value → Shared → Prop}
    {tc1 tc2 tc3 tc4 tc5 : Tok} {tx1 tx2 tx3 tx4 tx5 tx6 tr1 tr2 tr3 tr4 tr5 tr6 : Tok} {c dc d : Addr} {mx af : Value} {xs : Ents} {n : Nat} {x dx : Addr} {xk xv xc : Value} {r dr : Addr} {rp rn rk rv rc : Value} {kx : Key} {key : Value}
    (B : Below A₀ base outer h₀) (F : Fr h₀ L s.heap m) (X : (hd.heap_39 w.params).In h₀) (T : Top p loose mean mg mb h₀) (hk : cs.kind = .function) (hd : dp + 20 < recursionLimit) (hu : un + 200 < cLine) (hn : [c, dc, d, x, dx, r, dr].Nodup)
    (hx : Keyed prog w s.heap xs) (hkx : IsKey prog w s.heap kx key) (hlx : look xs kx = some (.ref x)) (hhv : handedIn xv = true)  (hhr : handedIn rk = true)
    (N : News h₀ L s.heap [(c, instObj 189 dc),
      (dc, cacheD w.params tc1 tc2 tc3 tc4 tc5 (.ref d) (.ref r) (.ref x) mx af),
      (d, dictK w xs n),
      (x, instObj 53 dx),
      (dx, nodeD w.params tx1 tx2 tx3 tx4 tx5 tx6 (.ref r) .none xk xv xc),
      (r, instObj 53 dr),
      (dr, nodeD w.params tr1 tr2 tr3 tr4 tr5 tr6 rp rn rk rv rc)])
    (ret : ∀ h' tk' , Fr h₀ L h' m → News h₀ L h' [(c, instObj 189 dc),
      (dc, cacheD w.params tc1 tc2 tc3 tc4 tc5 (.ref d) (.ref x) (.ref r) mx af),
      (d, dictK w xs n),
      (x, instObj 53 dx),
      (dx, nodeD w.params tx1 tx2 tx3 tx4 tx5 tx6 .none rk xk xv xc),
      (r, instObj 53 dr),
      (dr, nodeD w.params tr1 tr2 tr3 tr4 tr5 tr6 (.ref x) .none rk rv rc)] → Keep s.heap h' [c, dc, d, x, dx, r, dr] → Q xv { s with heap := h', toks := tk' }) :
    wpAny (model prog w) (ktrTop dp un gd cn cs L a ccd cl outer) (call (.ref 86) [.ref c, key]) Q E s := by
  have hn0 := hn
  simp only [List.nodup_cons, List.mem_cons, List.not_mem_nil, or_false, not_or, List.nodup_nil, not_false_eq_true, and_true] at hn
  obtain ⟨⟨n_0_1, n_0_2, n_0_3, n_0_4, n_0_5, n_0_6⟩, ⟨n_1_2, n_1_3, n_1_4, n_1_5, n_1_6⟩, ⟨n_2_3, n_2_4, n_2_5, n_2_6⟩, ⟨n_3_4, n_3_5, n_3_6⟩, ⟨n_4_5, n_4_6⟩, n_5_6⟩ := hn
  refine wpAny_call ?_
  k_dflt ktr_enter
  rename_i g' L' h' F' N' B' X' T' kk'
  have hc9 : ∀ q9 ∈ ([(c, instObj 189 dc),
      (dc, cacheD w.params tc1 tc2 tc3 tc4 tc5 (.ref d) (.ref r) (.ref x) mx af),
      (d, dictK w xs n),
      (x, instObj 53 dx),
      (dx, nodeD w.params tx1 tx2 tx3 tx4 tx5 tx6 (.ref r) .none xk xv xc),
      (r, instObj 53 dr),
      (dr, nodeD w.params tr1 tr2 tr3 tr4 tr5 tr6 rp rn rk rv rc)] : List (Addr × Obj)), q9.2.cls ≠ .type "tuple" := by simp only [List.forall_mem_cons]; simp
  have hx9 := lift_keyed hx kk' N hc9
  have hkx9 := lift_key hkx kk' N hc9
  clear hc9
  k_steps
  all_goals (
    try dsimp only
    try (k_unfold; try dsimp only)
    exact ⟨_, _, _, by assumption, by assumption, fun kF kN kk _ => ret _ _ kF kN kk⟩)

set_option maxHeartbeats 4000000 in
theorem gi_last {dp un : Nat} {gd : Option (List Code)} {cn : Str} {cs : Scope} {a : Addr} {ccd : Value} {cl : List (Str × Addr)} {outer : List Env} {A₀ : Around} {base h₀ : Heap} {L : Addr} {m : Str → Option Value} {s : Shared} {Q E : Value → Shared → Prop}
    {tc1 tc2 tc3 tc4 tc5 : Tok} {tx1 tx2 tx3 tx4 tx5 tx6 tr1 tr2 tr3 tr4 tr5 tr6 tz1 tz2 tz3 tz4 tz5 tz6 : Tok} {c dc d : Addr} {mx af : Value} {xs : Ents} {n : Nat} {x dx : Addr} {xk xv xc : Value} {r dr : Addr} {rp rn rk rv rc : Value} {z dz : Addr} {zp zn zk zv zc : Value} {kx : Key} {key : Value}
    (B : Below A₀ base outer h₀) (F : Fr h₀ L s.heap m) (X : (hd.heap_39 w.params).In h₀) (T : Top p loose mean mg mb h₀) (hk : cs.kind = .function) (hd : dp + 20 < recursionLimit) (hu : un + 200 < cLine) (hn : [c, dc, d, x, dx, r, dr, z, dz].Nodup)
    (hx : Keyed prog w s.heap xs) (hkx : IsKey prog w s.heap kx key) (hlx : look xs kx = some (.ref x)) (hhv : handedIn xv = true)  (hhr : handedIn rk = true)
    (N : News h₀ L s.heap [(c, instObj 189 dc),
      (dc, cacheD w.params tc1 tc2 tc3 tc4 tc5 (.ref d) (.ref r) (.ref x) mx af),
      (d, dictK w xs n),
      (x, instObj 53 dx),
      (dx, nodeD w.params tx1 tx2 tx3 tx4 tx5 tx6 (.ref z) .none xk xv xc),
      (r, instObj 53 dr),
      (dr, nodeD w.params tr1 tr2 tr3 tr4 tr5 tr6 rp rn rk rv rc),
      (z, instObj 53 dz),
      (dz, nodeD w.params tz1 tz2 tz3 tz4 tz5 tz6 zp zn zk zv zc)])
    (ret : ∀ h' tk' , Fr h₀ L h' m → News h₀ L h' [(c, instObj 189 dc),
      (dc, cacheD w.params tc1 tc2 tc3 tc4 tc5 (.ref d) (.ref x) (.ref z) mx af),
      (d, dictK w xs n),
      (x, instObj 53 dx),
      (dx, nodeD w.params tx1 tx2 tx3 tx4 tx5 tx6 .none rk xk xv xc),
      (r, instObj 53 dr),
      (dr, nodeD w.params tr1 tr2 tr3 tr4 tr5 tr6 (.ref x) rn rk rv rc),
      (z, instObj 53 dz),
      (dz, nodeD w.params tz1 tz2 tz3 tz4 tz5 tz6 zp .none zk zv zc)] → Keep s.heap h' [c, dc, d, x, dx, r, dr, z, dz] → Q xv { s with heap := h', toks := tk' }) :
    wpAny (model prog w) (ktrTop dp un gd cn cs L a ccd cl outer) (call (.ref 86) [.ref c, key]) Q E s := by
  have hn0 := hn
  simp only [List.nodup_cons, List.mem_cons, List.not_mem_nil, or_false, not_or, List.nodup_nil, not_false_eq_true, and_true] at hn
  obtain ⟨⟨n_0_1, n_0_2, n_0_3, n_0_4, n_0_5, n_0_6, n_0_7, n_0_8⟩, ⟨n_1_2, n_1_3, n_1_4, n_1_5, n_1_6, n_1_7, n_1_8⟩, ⟨n_2_3, n_2_4, n_2_5, n_2_6, n_2_7, n_2_8⟩, ⟨n_3_4, n_3_5, n_3_6, n_3_7, n_3_8⟩, ⟨n_4_5, n_4_6, n_4_7, n_4_8⟩, ⟨n_5_6, n_5_7, n_5_8⟩, ⟨n_6_7, n_6_8⟩, n_7_8⟩ := hn
  refine wpAny_call ?_
  k_dflt ktr_enter
  rename_i g' L' h' F' N' B' X' T' kk'
  have hc9 : ∀ q9 ∈ ([(c, instObj 189 dc),
      (dc, cacheD w.params tc1 tc2 tc3 tc4 tc5 (.ref d) (.ref r) (.ref x) mx af),
      (d, dictK w xs n),
      (x, instObj 53 dx),
      (dx, nodeD w.params tx1 tx2 tx3 tx4 tx5 tx6 (.ref z) .none xk xv xc),
      (r, instObj 53 dr),
      (dr, nodeD w.params tr1 tr2 tr3 tr4 tr5 tr6 rp rn rk rv rc),
      (z, instObj 53 dz),
      (dz, nodeD w.params tz1 tz2 tz3 tz4 tz5 tz6 zp zn zk zv zc)] : List (Addr × Obj)), q9.2.cls ≠ .type "tuple" := by simp only [List.forall_mem_cons]; simp
  have hx9 := lift_keyed hx kk' N hc9
  have hkx9 := lift_key hkx kk' N hc9
  clear hc9
  k_steps
  all_goals (
    try dsimp only
    try (k_unfold; try dsimp only)
    exact ⟨_, _, _, by assumption, by assumption, fun kF kN kk _ => ret _ _ kF kN kk⟩)

set_option maxHeartbeats 4000000 in
theorem gi_mid1 {dp un : Nat} {gd : Option (List Code)} {cn : Str} {cs : Scope} {a : Addr} {ccd : Value} {cl : List (Str × Addr)} {outer : List Env} {A₀ : Around} {base h₀ : Heap} {L : Addr} {m : Str → Option Value} {s : Shared} {Q E : Value → Shared → Prop}
    {tc1 tc2 tc3 tc4 tc5 : Tok} {tx1 tx2 tx3 tx4 tx5 tx6 tr1 tr2 tr3 tr4 tr5 tr6 ty1 ty2 ty3 ty4 ty5 ty6 : Tok} {c dc d : Addr} {mx af : Value} {xs : Ents} {n : Nat} {x dx : Addr} {xk xv xc : Value} {r dr : Addr} {rp rn rk rv rc : Value} {y dy : Addr} {yp yn yk yv yc : Value} {ky : Key} {l : Value} {kx : Key} {key : Value}
    (B : Below A₀ base outer h₀) (F : Fr h₀ L s.heap m) (X : (hd.heap_39 w.params).In h₀) (T : Top p loose mean mg mb h₀) (hk : cs.kind = .function) (hd : dp + 20 < recursionLimit) (hu : un + 200 < cLine) (hn : [c, dc, d, x, dx, r, dr, y, dy].Nodup)
    (hkx : IsKey prog w s.heap kx key) (hlx : look xs kx = some (.ref x)) (hhv : handedIn xv = true) (hx : Keyed prog w s.heap xs) (hy : IsKey prog w s.heap ky yk) (hly : look xs ky = some (.ref y))  (hhr : handedIn rk = true) (hhy : handedIn yk = true)
    (N : News h₀ L s.heap [(c, instObj 189 dc),
      (dc, cacheD w.params tc1 tc2 tc3 tc4 tc5 (.ref d) (.ref r) l mx af),
      (d, dictK w xs n),
      (x, instObj 53 dx),
      (dx, nodeD w.params tx1 tx2 tx3 tx4 tx5 tx6 (.ref r) yk xk xv xc),
      (r, instObj 53 dr),
      (dr, nodeD w.params tr1 tr2 tr3 tr4 tr5 tr6 rp rn rk rv rc),
      (y, instObj 53 dy),
      (dy, nodeD w.params ty1 ty2 ty3 ty4 ty5 ty6 yp yn yk yv yc)])
    (ret : ∀ h' tk' , Fr h₀ L h' m → News h₀ L h' [(c, instObj 189 dc),
      (dc, cacheD w.params tc1 tc2 tc3 tc4 tc5 (.ref d) (.ref x) l mx af),
      (d, dictK w xs n),
      (x, instObj 53 dx),
      (dx, nodeD w.params tx1 tx2 tx3 tx4 tx5 tx6 .none rk xk xv xc),
      (r, instObj 53 dr),
      (dr, nodeD w.params tr1 tr2 tr3 tr4 tr5 tr6 (.ref x) yk rk rv rc),
      (y, instObj 53 dy),
      (dy, nodeD w.params ty1 ty2 ty3 ty4 ty5 ty6 (.ref r) yn yk yv yc)] → Keep s.heap h' [c, dc, d, x, dx, r, dr, y, dy] → Q xv { s with heap := h', toks := tk' }) :
    wpAny (model prog w) (ktrTop dp un gd cn cs L a ccd cl outer) (call (.ref 86) [.ref c, key]) Q E s := by
  have hn0 := hn
  simp only [List.nodup_cons, List.mem_cons, List.not_mem_nil, or_false, not_or, List.nodup_nil, not_false_eq_true, and_true] at hn
  obtain ⟨⟨n_0_1, n_0_2, n_0_3, n_0_4, n_0_5, n_0_6, n_0_7, n_0_8⟩, ⟨n_1_2, n_1_3, n_1_4, n_1_5, n_1_6, n_1_7, n_1_8⟩, ⟨n_2_3, n_2_4, n_2_5, n_2_6, n_2_7, n_2_8⟩, ⟨n_3_4, n_3_5, n_3_6, n_3_7, n_3_8⟩, ⟨n_4_5, n_4_6, n_4_7, n_4_8⟩, ⟨n_5_6, n_5_7, n_5_8⟩, ⟨n_6_7, n_6_8⟩, n_7_8⟩ := hn
  refine wpAny_call ?_
  k_dflt ktr_enter
  rename_i g' L' h' F' N' B' X' T' kk'
  have hc9 : ∀ q9 ∈ ([(c, instObj 189 dc),
      (dc, cacheD w.params tc1 tc2 tc3 tc4 tc5 (.ref d) (.ref r) l mx af),
      (d, dictK w xs n),
      (x, instObj 53 dx),
      (dx, nodeD w.params tx1 tx2 tx3 tx4 tx5 tx6 (.ref r) yk xk xv xc),
      (r, instObj 53 dr),
      (dr, nodeD w.params tr1 tr2 tr3 tr4 tr5 tr6 rp rn rk rv rc),
      (y, instObj 53 dy),
      (dy, nodeD w.params ty1 ty2 ty3 ty4 ty5 ty6 yp yn yk yv yc)] : List (Addr × Obj)), q9.2.cls ≠ .type "tuple" := by simp only [List.forall_mem_cons]; simp
  have hkx9 := lift_key hkx kk' N hc9
  have hx9 := lift_keyed hx kk' N hc9
  have hy9 := lift_key hy kk' N hc9
  clear hc9
  k_steps
  all_goals (
    try dsimp only
    try (k_unfold; try dsimp only)
    exact ⟨_, _, _, by assumption, by assumption, fun kF kN kk _ => ret _ _ kF kN kk⟩)

set_option maxHeartbeats 4000000 in
theorem gi_mid {dp un : Nat} {gd : Option (List Code)} {cn : Str} {cs : Scope} {a : Addr} {ccd : Value} {cl : List (Str × Addr)} {outer : List Env} {A₀ : Around} {base h₀ : Heap} {L : Addr} {m : Str → Option Value} {s : Shared} {Q E : Value → Shared → Prop}
    {tc1 tc2 tc3 tc4 tc5 : Tok} {tx1 tx2 tx3 tx4 tx5 tx6 tr1 tr2 tr3 tr4 tr5 tr6 ty1 ty2 ty3 ty4 ty5 ty6 tz1 tz2 tz3 tz4 tz5 tz6 : Tok} {c dc d : Addr} {mx af : Value} {xs : Ents} {n : Nat} {x dx : Addr} {xk xv xc : Value} {r dr : Addr} {rp rn rk rv rc : Value} {y dy : Addr} {yp yn yk yv yc : Value} {z dz : Addr} {zp zn zk zv zc : Value} {ky : Key} {l : Value} {kx : Key} {key : Value}
    (B : Below A₀ base outer h₀) (F : Fr h₀ L s.heap m) (X : (hd.heap_39 w.params).In h₀) (T : Top p loose mean mg mb h₀) (hk : cs.kind = .function) (hd : dp + 20 < recursionLimit) (hu : un + 200 < cLine) (hn : [c, dc, d, x, dx, r, dr, y, dy, z, dz].Nodup)
    (hkx : IsKey prog w s.heap kx key) (hlx : look xs kx = some (.ref x)) (hhv : handedIn xv = true) (hx : Keyed prog w s.heap xs) (hy : IsKey prog w s.heap ky yk) (hly : look xs ky = some (.ref y))  (hhr : handedIn rk = true) (hhy : handedIn yk = true)
    (N : News h₀ L s.heap [(c, instObj 189 dc),
      (dc, cacheD w.params tc1 tc2 tc3 tc4 tc5 (.ref d) (.ref r) l mx af),
      (d, dictK w xs n),
      (x, instObj 53 dx),
      (dx, nodeD w.params tx1 tx2 tx3 tx4 tx5 tx6 (.ref z) yk xk xv xc),
      (r, instObj 53 dr),
      (dr, nodeD w.params tr1 tr2 tr3 tr4 tr5 tr6 rp rn rk rv rc),
      (y, instObj 53 dy),
      (dy, nodeD w.params ty1 ty2 ty3 ty4 ty5 ty6 yp yn yk yv yc),
      (z, instObj 53 dz),
      (dz, nodeD w.params tz1 tz2 tz3 tz4 tz5 tz6 zp zn zk zv zc)])
    (ret : ∀ h' tk' , Fr h₀ L h' m → News h₀ L h' [(c, instObj 189 dc),
      (dc, cacheD w.params tc1 tc2 tc3 tc4 tc5 (.ref d) (.ref x) l mx af),
      (d, dictK w xs n),
      (x, instObj 53 dx),
      (dx, nodeD w.params tx1 tx2 tx3 tx4 tx5 tx6 .none rk xk xv xc),
      (r, instObj 53 dr),
      (dr, nodeD w.params tr1 tr2 tr3 tr4 tr5 tr6 (.ref x) rn rk rv rc),
      (y, instObj 53 dy),
      (dy, nodeD w.params ty1 ty2 ty3 ty4 ty5 ty6 (.ref z) yn yk yv yc),
      (z, instObj 53 dz),
      (dz, nodeD w.params tz1 tz2 tz3 tz4 tz5 tz6 zp yk zk zv zc)] → Keep s.heap h' [c, dc, d, x, dx, r, dr, y, dy, z, dz] → Q xv { s with heap := h', toks := tk' }) :
    wpAny (model prog w) (ktrTop dp un gd cn cs L a ccd cl outer) (call (.ref 86) [.ref c, key]) Q E s := by
  have hn0 := hn
  simp only [List.nodup_cons, List.mem_cons, List.not_mem_nil, or_false, not_or, List.nodup_nil, not_false_eq_true, and_true] at hn
  obtain ⟨⟨n_0_1, n_0_2, n_0_3, n_0_4, n_0_5, n_0_6, n_0_7, n_0_8, n_0_9, n_0_10⟩, ⟨n_1_2, n_1_3, n_1_4, n_1_5, n_1_6, n_1_7, n_1_8, n_1_9, n_1_10⟩, ⟨n_2_3, n_2_4, n_2_5, n_2_6, n_2_7, n_2_8, n_2_9, n_2_10⟩, ⟨n_3_4, n_3_5, n_3_6, n_3_7, n_3_8, n_3_9, n_3_10⟩, ⟨n_4_5, n_4_6, n_4_7, n_4_8, n_4_9, n_4_10⟩, ⟨n_5_6, n_5_7, n_5_8, n_5_9, n_5_10⟩, ⟨n_6_7, n_6_8, n_6_9, n_6_10⟩, ⟨n_7_8, n_7_9, n_7_10⟩, ⟨n_8_9, n_8_10⟩, n_9_10⟩ := hn
  refine wpAny_call ?_
  k_dflt ktr_enter
  rename_i g' L' h' F' N' B' X' T' kk'
  have hc9 : ∀ q9 ∈ ([(c, instObj 189 dc),
      (dc, cacheD w.params tc1 tc2 tc3 tc4 tc5 (.ref d) (.ref r) l mx af),
      (d, dictK w xs n),
      (x, instObj 53 dx),
      (dx, nodeD w.params tx1 tx2 tx3 tx4 tx5 tx6 (.ref z) yk xk xv xc),
      (r, instObj 53 dr),
      (dr, nodeD w.params tr1 tr2 tr3 tr4 tr5 tr6 rp rn rk rv rc),
      (y, instObj 53 dy),
      (dy, nodeD w.params ty1 ty2 ty3 ty4 ty5 ty6 yp yn yk yv yc),
      (z, instObj 53 dz),
      (dz, nodeD w.params tz1 tz2 tz3 tz4 tz5 tz6 zp zn zk zv zc)] : List (Addr × Obj)), q9.2.cls ≠ .type "tuple" := by simp only [List.forall_mem_cons]; simp
  have hkx9 := lift_key hkx kk' N hc9
  have hx9 := lift_keyed hx kk' N hc9
  have hy9 := lift_key hy kk' N hc9
  clear hc9
  k_steps
  all_goals (
    try dsimp only
    try (k_unfold; try dsimp only)
    exact ⟨_, _, _, by assumption, by assumption, fun kF kN kk _ => ret _ _ kF kN kk⟩)
end
end Mine
end
section
theorem Mine.off_Walk1 : True := by w_top off; exact True.intro
local macro_rules | `(tactic| walk_at "no such word") => `(tactic| fail "no step")
set_option maxRecDepth 100000
set_option linter.unusedVariables false
namespace Mine
open PySem PySem.W PySem.Spec PySem.Calls PyProof.Rows
theorem fillA : (PySem.Challenge.rw_bb0035_01 = PySem.Challenge.rw_bb0035_01) ∧ (hd.heap_39 = hd.heap_39) := by k_fill; exact ⟨rfl, rfl⟩

local macro_rules | `(tactic| k_ne) => `(tactic| first | (refine neN ?_; (try dsimp only); first | with_reducible assumption | exact Ne.symm (by with_reducible assumption)))
local macro_rules | `(tactic| ktr_enter) => `(tactic| (refine' code_T ?k1 ?k2 ?k3 ?k4 ?k5 ?kA ?kF ?kK ?k6 ?k7 ?k8 ?k9 ?kB ?_ ?c2 ?c3 ?c4 ?c5; (case kA => exact rfl); (case kF => exact rfl); (case kK => assumption); (case k1 => k_asm); (case k2 => k_asm); (case k3 => k_asm); (case k4 => k_asm); (case k5 => k_asm); (case k6 => k_is); (case k7 => k_is); (case k8 => ktr_room); (case k9 => first | exact BindsTo.of_eq rfl | exact binds_K (by k_in) rfl (by k_is) rfl rfl rfl); (case c5 => decide); (case kB => exact locs rfl); (case c2 => exact rfl); (case c3 => exact rfl); (case c4 => exact rfl); k_whole; intro g' L' h' F' N' B' X' T' kk'; (try dsimp only); (try k_fold)))
local macro_rules | `(tactic| k_room) => `(tactic| ktr_room)
local macro_rules | `(tactic| k_units) => `(tactic| ktr_units)
local macro_rules | `(tactic| k_handed) => `(tactic| with_reducible assumption)
local macro_rules | `(tactic| walk_at "subscriptTail") => `(tactic| (k_here; (with_reducible show wpAny _ _ (subscriptTail _ _ (Value.ref _) _) _ _ _); k_dflt (refine' sub_key ?k1 ?k2 ?k3 ?k4 ?k5 ?k6 ?k7 ?k8 ?_; (case k1 => k_asm); (case k2 => k_asm); (case k3 => k_mem); (case k4 => k_asm); (case k5 => k_asm); (case k6 => k_asm); (case k7 => ktr_units); (case k8 => with_unfolding_all rfl); k_whole); intro tk9))
local macro_rules | `(tactic| walk_at "compareOp IsNot") => `(tactic| (k_here; (with_reducible show wpAny _ _ (compareOp CmpOp.IsNot _ Value.none) _ _ _); k_dflt (refine' isNot_key_none ?a ?_; (case a => with_reducible assumption); k_whole)))
local macro_rules | `(tactic| walk_at "compareOp Is") => `(tactic| (k_here; (with_reducible show wpAny _ _ (compareOp CmpOp.Is _ Value.none) _ _ _); k_dflt (refine' is_key_none ?a ?_; (case a => with_reducible assumption); k_whole)))
local macro_rules | `(tactic| walk_at "compareOp Is ref ref") => `(tactic| (k_here; (with_reducible show wpAny _ _ (compareOp CmpOp.Is (Value.ref _) (Value.ref _)) _ _ _); k_dflt (refine' is_ref_ne ?a ?b ?c ?d ?_; (case a => first | with_reducible assumption | exact Ne.symm (by with_reducible assumption)); (case b => first | exact News.get (by k_asm) (by k_mem) | exact Fr.keep (by k_asm) _ _ (by with_reducible assumption)); (case c => first | exact News.get (by k_asm) (by k_mem) | exact Fr.keep (by k_asm) _ _ (by with_reducible assumption)); (case d => intro q9; cases q9); k_whole)))
local macro_rules | `(tactic| walk_at "compareOp In") => `(tactic| (k_here; (with_reducible show wpAny _ _ (compareOp CmpOp.In _ (Value.ref _)) _ _ _); k_dflt (refine' in_keyN ?k1 ?k2 ?k3 ?k4 ?k5 ?k6 ?k7 _ ?k8 ?_; (case k1 => k_asm); (case k2 => k_asm); (case k3 => k_mem); (case k4 => k_asm); (case k5 => k_asm); (case k6 => k_asm); (case k7 => ktr_units); (case k8 => with_reducible assumption); k_whole); intro tk9))
local macro_rules | `(tactic| walk_at "call builtin:len") => `(tactic| (k_here; (with_reducible show wpAny _ _ (call (Value.builtin "len") [Value.ref _]) _ _ _); k_dflt (refine' len_keyN ?k1 ?k2 ?k3 ?k4 ?_; (case k1 => k_asm); (case k2 => k_mem); (case k3 => k_asm); (case k4 => first | with_reducible assumption | (simp only [List.length_append, List.length_cons, List.length_nil]; omega) | omega); k_whole); intro tk8 tk9))
local macro_rules | `(tactic| walk_at "getMethod ref") => `(tactic| (k_here; (with_reducible show wpAny _ _ (getMethod (Value.ref _) (Str.ofString "get") _) _ _ _); k_dflt (refine' methodN ?k1 ?k2 PySem.F.slot_dict_get PySem.F.type_dict_get ?_; (case k1 => k_asm); (case k2 => k_mem); k_whole)))
local macro_rules | `(tactic| walk_at "getMethod ref") => `(tactic| (k_here; (with_reducible show wpAny _ _ (getMethod (Value.ref _) (Str.ofString "pop") _) _ _ _); k_dflt (refine' methodN ?k1 ?k2 PySem.F.slot_dict_pop PySem.F.type_dict_pop ?_; (case k1 => k_asm); (case k2 => k_mem); k_whole)))
local macro_rules | `(tactic| walk_at "call builtin:dict.get") => `(tactic| (k_here; (with_reducible show wpAny _ _ (call (Value.builtin _) [Value.ref _, _, _]) _ _ _); k_dflt (refine' get2_keyN ?k1 ?k2 ?k3 ?k4 ?k5 ?k6 ?k7 ?k8 ?_; (case k1 => k_asm); (case k2 => k_asm); (case k3 => k_mem); (case k4 => k_asm); (case k5 => k_asm); (case k6 => k_asm); (case k7 => ktr_units); (case k8 => k_asm); k_whole); intro tk9; (try dsimp only [Option.getD])))
local macro_rules | `(tactic| walk_at "call builtin:dict.pop") => `(tactic| (k_here; (with_reducible show wpAny _ _ (call (Value.builtin _) [Value.ref _, _]) _ _ _); k_dflt (refine' pop_keyN ?k1 ?k2 ?k3 ?k4 ?k5 ?k6 ?k7 ?k8 ?_; (case k1 => k_asm); (case k2 => k_asm); (case k3 => k_upd); (case k4 => k_asm); (case k5 => k_asm); (case k6 => ktr_units); (case k7 => k_asm); (case k8 => k_asm); k_whole); intro h9 tk9 F' N'; (try k_sweep)))
local macro_rules | `(tactic| walk_at "setItem ref") => `(tactic| (k_here; (with_reducible show wpAny _ _ (setItem (Value.ref _) _ _) _ _ _); k_dflt (refine' setItem_keyN ?k1 ?k2 ?k3 ?k4 ?k5 ?k6 ?k7 ?k8 ?_; (case k1 => k_asm); (case k2 => k_asm); (case k3 => k_upd); (case k4 => k_asm); (case k5 => k_asm); (case k6 => ktr_units); (case k7 => k_asm); (case k8 => k_asm); k_whole); intro h9 tk9 F' N'; (try k_sweep)))

section
variable {prog : Program} {w : World} {p : Program} {loose : List Str} {mean : ExcName → Option Value} {mg mb : Str → Option Value}

set_option maxHeartbeats 4000000 in
theorem ra_first {dp un : Nat} {gd : Option (List Code)} {cn : Str} {cs : Scope} {a : Addr} {ccd : Value} {cl : List (Str × Addr)} {outer : List Env} {A₀ : Around} {base h₀ : Heap} {L : Addr} {m : Str → Option Value} {s : Shared} {Q E : Value → Shared → Prop}
    {tc1 tc2 tc3 tc4 tc5 : Tok} {c dc d : Addr} {mx af : Value} {xs : Ents} {n : Nat} {x : Addr} {lru : Value}
    (B : Below A₀ base outer h₀) (F : Fr h₀ L s.heap m) (X : (hd.heap_39 w.params).In h₀) (T : Top p loose mean mg mb h₀) (hk : cs.kind = .function) (hd : dp + 20 < recursionLimit) (hu : un + 200 < cLine) (hn : [c, dc, d].Nodup)
    
    (N : News h₀ L s.heap [(c, instObj 189 dc),
      (dc, cacheD w.params tc1 tc2 tc3 tc4 tc5 (.ref d) .none lru mx af),
      (d, dictK w xs n)])
    (ret : ∀ h' tk' , Fr h₀ L h' m → News h₀ L h' [(c, instObj 189 dc),
      (dc, cacheD w.params tc1 tc2 tc3 tc4 tc5 (.ref d) (.ref x) (.ref x) mx af),
      (d, dictK w xs n)] → Keep s.heap h' [c, dc, d] → Q .none { s with heap := h', toks := tk' }) :
    wpAny (model prog w) (ktrTop dp un gd cn cs L a ccd cl outer) (call (.ref 149) [.ref c, .ref x]) Q E s := by
  have hn0 := hn
  simp only [List.nodup_cons, List.mem_cons, List.not_mem_nil, or_false, not_or, List.nodup_nil, not_false_eq_true, and_true] at hn
  obtain ⟨⟨n_0_1, n_0_2⟩, n_1_2⟩ := hn
  refine wpAny_call ?_
  k_dflt ktr_enter
  rename_i g' L' h' F' N' B' X' T' kk'
  k_steps
  all_goals (
    try dsimp only
    try (k_unfold; try dsimp only)
    exact ⟨_, _, _, by assumption, by assumption, fun kF kN kk _ => ret _ _ kF kN kk⟩)

set_option maxHeartbeats 4000000 in
theorem ra_mru {dp un : Nat} {gd : Option (List Code)} {cn : Str} {cs : Scope} {a : Addr} {ccd : Value} {cl : List (Str × Addr)} {outer : List Env} {A₀ : Around} {base h₀ : Heap} {L : Addr} {m : Str → Option Value} {s : Shared} {Q E : Value → Shared → Prop}
    {tc1 tc2 tc3 tc4 tc5 : Tok} {c dc d : Addr} {mx af : Value} {xs : Ents} {n : Nat} {x : Addr} {lru : Value}
    (B : Below A₀ base outer h₀) (F : Fr h₀ L s.heap m) (X : (hd.heap_39 w.params).In h₀) (T : Top p loose mean mg mb h₀) (hk : cs.kind = .function) (hd : dp + 20 < recursionLimit) (hu : un + 200 < cLine) (hn : [c, dc, d].Nodup)
    
    (N : News h₀ L s.heap [(c, instObj 189 dc),
      (dc, cacheD w.params tc1 tc2 tc3 tc4 tc5 (.ref d) (.ref x) lru mx af),
      (d, dictK w xs n)])
    (ret : ∀ h' tk' , Fr h₀ L h' m → News h₀ L h' [(c, instObj 189 dc),
      (dc, cacheD w.params tc1 tc2 tc3 tc4 tc5 (.ref d) (.ref x) lru mx af),
      (d, dictK w xs n)] → Keep s.heap h' [c, dc, d] → Q .none { s with heap := h', toks := tk' }) :
    wpAny (model prog w) (ktrTop dp un gd cn cs L a ccd cl outer) (call (.ref 149) [.ref c, .ref x]) Q E s := by
  have hn0 := hn
  simp only [List.nodup_cons, List.mem_cons, List.not_mem_nil, or_false, not_or, List.nodup_nil, not_false_eq_true, and_true] at hn
  obtain ⟨⟨n_0_1, n_0_2⟩, n_1_2⟩ := hn
  refine wpAny_call ?_
  k_dflt ktr_enter
  rename_i g' L' h' F' N' B' X' T' kk'
  k_steps
  all_goals (
    try dsimp only
    try (k_unfold; try dsimp only)
    exact ⟨_, _, _, by assumption, by assumption, fun kF kN kk _ => ret _ _ kF kN kk⟩)

set_option maxHeartbeats 4000000 in
theorem ra_mrux {dp un : Nat} {gd : Option (List Code)} {cn : Str} {cs : Scope} {a : Addr} {ccd : Value} {cl : List (Str × Addr)} {outer : List Env} {A₀ : Around} {base h₀ : Heap} {L : Addr} {m : Str → Option Value} {s : Shared} {Q E : Value → Shared → Prop}
    {tc1 tc2 tc3 tc4 tc5 : Tok} {tx1 tx2 tx3 tx4 tx5 tx6 : Tok} {c dc d : Addr} {mx af : Value} {xs : Ents} {n : Nat} {x dx : Addr} {xp xn xk xv xc : Value} {lru : Value}
    (B : Below A₀ base outer h₀) (F : Fr h₀ L s.heap m) (X : (hd.heap_39 w.params).In h₀) (T : Top p loose mean mg mb h₀) (hk : cs.kind = .function) (hd : dp + 20 < recursionLimit) (hu : un + 200 < cLine) (hn : [c, dc, d, x, dx].Nodup)
    
    (N : News h₀ L s.heap [(c, instObj 189 dc),
      (dc, cacheD w.params tc1 tc2 tc3 tc4 tc5 (.ref d) (.ref x) lru mx af),
      (d, dictK w xs n),
      (x, instObj 53 dx),
      (dx, nodeD w.params tx1 tx2 tx3 tx4 tx5 tx6 xp xn xk xv xc)])
    (ret : ∀ h' tk' , Fr h₀ L h' m → News h₀ L h' [(c, instObj 189 dc),
      (dc, cacheD w.params tc1 tc2 tc3 tc4 tc5 (.ref d) (.ref x) lru mx af),
      (d, dictK w xs n),
      (x, instObj 53 dx),
      (dx, nodeD w.params tx1 tx2 tx3 tx4 tx5 tx6 xp xn xk xv xc)] → Keep s.heap h' [c, dc, d, x, dx] → Q .none { s with heap := h', toks := tk' }) :
    wpAny (model prog w) (ktrTop dp un gd cn cs L a ccd cl outer) (call (.ref 149) [.ref c, .ref x]) Q E s := by
  have hn0 := hn
  simp only [List.nodup_cons, List.mem_cons, List.not_mem_nil, or_false, not_or, List.nodup_nil, not_false_eq_true, and_true] at hn
  obtain ⟨⟨n_0_1, n_0_2, n_0_3, n_0_4⟩, ⟨n_1_2, n_1_3, n_1_4⟩, ⟨n_2_3, n_2_4⟩, n_3_4⟩ := hn
  refine wpAny_call ?_
  k_dflt ktr_enter
  rename_i g' L' h' F' N' B' X' T' kk'
  k_steps
  all_goals (
    try dsimp only
    try (k_unfold; try dsimp only)
    exact ⟨_, _, _, by assumption, by assumption, fun kF kN kk _ => ret _ _ kF kN kk⟩)

set_option maxHeartbeats 4000000 in
theorem ra_new1 {dp un : Nat} {gd : Option (List Code)} {cn : Str} {cs : Scope} {a : Addr} {ccd : Value} {cl : List (Str × Addr)} {outer : List Env} {A₀ : Around} {base h₀ : Heap} {L : Addr} {m : Str → Option Value} {s : Shared} {Q E : Value → Shared → Prop}
    {tc1 tc2 tc3 tc4 tc5 : Tok} {tx1 tx2 tx3 tx4 tx5 tx6 tr1 tr2 tr3 tr4 tr5 tr6 : Tok} {c dc d : Addr} {mx af : Value} {xs : Ents} {n : Nat} {x dx : Addr} {xk xv xc : Value} {r dr : Addr} {rp rn rk rv rc : Value}
    (B : Below A₀ base outer h₀) (F : Fr h₀ L s.heap m) (X : (hd.heap_39 w.params).In h₀) (T : Top p loose mean mg mb h₀) (hk : cs.kind = .function) (hd : dp + 20 < recursionLimit) (hu : un + 200 < cLine) (hn : [c, dc, d, x, dx, r, dr].Nodup)
     (hhr : handedIn rk = true)
    (N : News h₀ L s.heap [(c, instObj 189 dc),
      (dc, cacheD w.params tc1 tc2 tc3 tc4 tc5 (.ref d) (.ref r) (.ref r) mx af),
      (d, dictK w xs n),
      (x, instObj 53 dx),
      (dx, nodeD w.params tx1 tx2 tx3 tx4 tx5 tx6 .none .none xk xv xc),
      (r, instObj 53 dr),
      (dr, nodeD w.params tr1 tr2 tr3 tr4 tr5 tr6 rp rn rk rv rc)])
    (ret : ∀ h' tk' , Fr h₀ L h' m → News h₀ L h' [(c, instObj 189 dc),
      (dc, cacheD w.params tc1 tc2 tc3 tc4 tc5 (.ref d) (.ref x) (.ref r) mx af),
      (d, dictK w xs n),
      (x, instObj 53 dx),
      (dx, nodeD w.params tx1 tx2 tx3 tx4 tx5 tx6 .none rk xk xv xc),
      (r, instObj 53 dr),
      (dr, nodeD w.params tr1 tr2 tr3 tr4 tr5 tr6 (.ref x) rn rk rv rc)] → Keep s.heap h' [c, dc, d, x, dx, r, dr] → Q .none { s with heap := h', toks := tk' }) :
    wpAny (model prog w) (ktrTop dp un gd cn cs L a ccd cl outer) (call (.ref 149) [.ref c, .ref x]) Q E s := by
  have hn0 := hn
  simp only [List.nodup_cons, List.mem_cons, List.not_mem_nil, or_false, not_or, List.nodup_nil, not_false_eq_true, and_true] at hn
  obtain ⟨⟨n_0_1, n_0_2, n_0_3, n_0_4, n_0_5, n_0_6⟩, ⟨n_1_2, n_1_3, n_1_4, n_1_5, n_1_6⟩, ⟨n_2_3, n_2_4, n_2_5, n_2_6⟩, ⟨n_3_4, n_3_5, n_3_6⟩, ⟨n_4_5, n_4_6⟩, n_5_6⟩ := hn
  refine wpAny_call ?_
  k_dflt ktr_enter
  rename_i g' L' h' F' N' B' X' T' kk'
  k_steps
  all_goals (
    try dsimp only
    try (k_unfold; try dsimp only)
    exact ⟨_, _, _, by assumption, by assumption, fun kF kN kk _ => ret _ _ kF kN kk⟩)

set_option maxHeartbeats 4000000 in
theorem ra_new {dp un : Nat} {gd : Option (List Code)} {cn : Str} {cs : Scope} {a : Addr} {ccd : Value} {cl : List (Str × Addr)} {outer : List Env} {A₀ : Around} {base h₀ : Heap} {L : Addr} {m : Str → Option Value} {s : Shared} {Q E : Value → Shared → Prop}
    {tc1 tc2 tc3 tc4 tc5 : Tok} {tx1 tx2 tx3 tx4 tx5 tx6 tr1 tr2 tr3 tr4 tr5 tr6 : Tok} {c dc d : Addr} {mx af : Value} {xs : Ents} {n : Nat} {x dx : Addr} {xk xv xc : Value} {r dr : Addr} {rp rn rk rv rc : Value} {l dl : Addr}
    (B : Below A₀ base outer h₀) (F : Fr h₀ L s.heap m) (X : (hd.heap_39 w.params).In h₀) (T : Top p loose mean mg mb h₀) (hk : cs.kind = .function) (hd : dp + 20 < recursionLimit) (hu : un + 200 < cLine) (hn : [c, dc, d, x, dx, r, dr, l].Nodup)
    (hlo : s.heap.get? l = some (instObj 53 dl)) (hhr : handedIn rk = true)
    (N : News h₀ L s.heap [(c, instObj 189 dc),
      (dc, cacheD w.params tc1 tc2 tc3 tc4 tc5 (.ref d) (.ref r) (.ref l) mx af),
      (d, dictK w xs n),
      (x, instObj 53 dx),
      (dx, nodeD w.params tx1 tx2 tx3 tx4 tx5 tx6 .none .none xk xv xc),
      (r, instObj 53 dr),
      (dr, nodeD w.params tr1 tr2 tr3 tr4 tr5 tr6 rp rn rk rv rc)])
    (ret : ∀ h' tk' , Fr h₀ L h' m → News h₀ L h' [(c, instObj 189 dc),
      (dc, cacheD w.params tc1 tc2 tc3 tc4 tc5 (.ref d) (.ref x) (.ref l) mx af),
      (d, dictK w xs n),
      (x, instObj 53 dx),
      (dx, nodeD w.params tx1 tx2 tx3 tx4 tx5 tx6 .none rk xk xv xc),
      (r, instObj 53 dr),
      (dr, nodeD w.params tr1 tr2 tr3 tr4 tr5 tr6 (.ref x) rn rk rv rc)] → Keep s.heap h' [c, dc, d, x, dx, r, dr] → Q .none { s with heap := h', toks := tk' }) :
    wpAny (model prog w) (ktrTop dp un gd cn cs L a ccd cl outer) (call (.ref 149) [.ref c, .ref x]) Q E s := by
  have hn0 := hn
  simp only [List.nodup_cons, List.mem_cons, List.not_mem_nil, or_false, not_or, List.nodup_nil, not_false_eq_true, and_true] at hn
  obtain ⟨⟨n_0_1, n_0_2, n_0_3, n_0_4, n_0_5, n_0_6, n_0_7⟩, ⟨n_1_2, n_1_3, n_1_4, n_1_5, n_1_6, n_1_7⟩, ⟨n_2_3, n_2_4, n_2_5, n_2_6, n_2_7⟩, ⟨n_3_4, n_3_5, n_3_6, n_3_7⟩, ⟨n_4_5, n_4_6, n_4_7⟩, ⟨n_5_6, n_5_7⟩, n_6_7⟩ := hn
  refine wpAny_call ?_
  k_dflt ktr_enter
  rename_i g' L' h' F' N' B' X' T' kk'
  have hc9 : ∀ q9 ∈ ([(c, instObj 189 dc),
      (dc, cacheD w.params tc1 tc2 tc3 tc4 tc5 (.ref d) (.ref r) (.ref l) mx af),
      (d, dictK w xs n),
      (x, instObj 53 dx),
      (dx, nodeD w.params tx1 tx2 tx3 tx4 tx5 tx6 .none .none xk xv xc),
      (r, instObj 53 dr),
      (dr, nodeD w.params tr1 tr2 tr3 tr4 tr5 tr6 rp rn rk rv rc)] : List (Addr × Obj)), q9.2.cls ≠ .type "tuple" := by simp only [List.forall_mem_cons]; simp
  have hlo9 := kk' _ _ hlo (by simp only [List.map_cons, List.map_nil, List.mem_cons, List.not_mem_nil, or_false, not_or]; (repeat' constructor) <;> first | assumption | exact Ne.symm (by assumption))
  clear hc9
  k_steps
  all_goals (
    try dsimp only
    try (k_unfold; try dsimp only)
    exact ⟨_, _, _, by assumption, by assumption, fun kF kN kk _ => ret _ _ kF kN kk⟩)

set_option maxHeartbeats 4000000 in
theorem ra_last1 {dp un : Nat} {gd : Option (List Code)} {cn : Str} {cs : Scope} {a : Addr} {ccd : Value} {cl : List (Str × Addr)} {outer : List Env} {A₀ : Around} {base h₀ : Heap} {L : Addr} {m : Str → Option Value} {s : Shared} {Q E : Value → Shared → Prop}
    {tc1 tc2 tc3 tc4 tc5 : Tok} {tx1 tx2 tx3 tx4 tx5 tx6 tr1 tr2 tr3 tr4 tr5 tr6 : Tok} {c dc d : Addr} {mx af : Value} {xs : Ents} {n : Nat} {x dx : Addr} {xk xv xc : Value} {r dr : Addr} {rp rn rk rv rc : Value}
    (B : Below A₀ base outer h₀) (F : Fr h₀ L s.heap m) (X : (hd.heap_39 w.params).In h₀) (T : Top p loose mean mg mb h₀) (hk : cs.kind = .function) (hd : dp + 20 < recursionLimit) (hu : un + 200 < cLine) (hn : [c, dc, d, x, dx, r, dr].Nodup)
     (hhr : handedIn rk = true)
    (N : News h₀ L s.heap [(c, instObj 189 dc),
      (dc, cacheD w.params tc1 tc2 tc3 tc4 tc5 (.ref d) (.ref r) (.ref x) mx af),
      (d, dictK w xs n),
      (x, instObj 53 dx),
      (dx, nodeD w.params tx1 tx2 tx3 tx4 tx5 tx6 (.ref r) .none xk xv xc),
      (r, instObj 53 dr),
      (dr, nodeD w.params tr1 tr2 tr3 tr4 tr5 tr6 rp rn rk rv rc)])
    (ret : ∀ h' tk' , Fr h₀ L h' m → News h₀ L h' [(c, instObj 189 dc),
      (dc, cacheD w.params tc1 tc2 tc3 tc4 tc5 (.ref d) (.ref x) (.ref r) mx af),
      (d, dictK w xs n),
      (x, instObj 53 dx),
      (dx, nodeD w.params tx1 tx2 tx3 tx4 tx5 tx6 .none rk xk xv xc),
      (r, instObj 53 dr),
      (dr, nodeD w.params tr1 tr2 tr3 tr4 tr5 tr6 (.ref x) .none rk rv rc)] → Keep s.heap h' [c, dc, d, x, dx, r, dr] → Q .none { s with heap := h', toks := tk' }) :
    wpAny (model prog w) (ktrTop dp un gd cn cs L a ccd cl outer) (call (.ref 149) [.ref c, .ref x]) Q E s := by
  have hn0 := hn
  simp only [List.nodup_cons, List.mem_cons, List.not_mem_nil, or_false, not_or, List.nodup_nil, not_false_eq_true, and_true] at hn
  obtain ⟨⟨n_0_1, n_0_2, n_0_3, n_0_4, n_0_5, n_0_6⟩, ⟨n_1_2, n_1_3, n_1_4, n_1_5, n_1_6⟩, ⟨n_2_3, n_2_4, n_2_5, n_2_6⟩, ⟨n_3_4, n_3_5, n_3_6⟩, ⟨n_4_5, n_4_6⟩, n_5_6⟩ := hn
  refine wpAny_call ?_
  k_dflt ktr_enter
  rename_i g' L' h' F' N' B' X' T' kk'
  k_steps
  all_goals (
    try dsimp only
    try (k_unfold; try dsimp only)
    exact ⟨_, _, _, by assumption, by assumption, fun kF kN kk _ => ret _ _ kF kN kk⟩)

set_option maxHeartbeats 4000000 in
theorem ra_last {dp un : Nat} {gd : Option (List Code)} {cn : Str} {cs : Scope} {a : Addr} {ccd : Value} {cl : List (Str × Addr)} {outer : List Env} {A₀ : Around} {base h₀ : Heap} {L : Addr} {m : Str → Option Value} {s : Shared} {Q E : Value → Shared → Prop}
    {tc1 tc2 tc3 tc4 tc5 : Tok} {tx1 tx2 tx3 tx4 tx5 tx6 tr1 tr2 tr3 tr4 tr5 tr6 tz1 tz2 tz3 tz4 tz5 tz6 : Tok} {c dc d : Addr} {mx af : Value} {xs : Ents} {n : Nat} {x dx : Addr} {xk xv xc : Value} {r dr : Addr} {rp rn rk rv rc : Value} {z dz : Addr} {zp zn zk zv zc : Value}
    (B : Below A₀ base outer h₀) (F : Fr h₀ L s.heap m) (X : (hd.heap_39 w.params).In h₀) (T : Top p loose mean mg mb h₀) (hk : cs.kind = .function) (hd : dp + 20 < recursionLimit) (hu : un + 200 < cLine) (hn : [c, dc, d, x, dx, r, dr, z, dz].Nodup)
     (hhr : handedIn rk = true)
    (N : News h₀ L s.heap [(c, instObj 189 dc),
      (dc, cacheD w.params tc1 tc2 tc3 tc4 tc5 (.ref d) (.ref r) (.ref x) mx af),
      (d, dictK w xs n),
      (x, instObj 53 dx),
      (dx, nodeD w.params tx1 tx2 tx3 tx4 tx5 tx6 (.ref z) .none xk xv xc),
      (r, instObj 53 dr),
      (dr, nodeD w.params tr1 tr2 tr3 tr4 tr5 tr6 rp rn rk rv rc),
      (z, instObj 53 dz),
      (dz, nodeD w.params tz1 tz2 tz3 tz4 tz5 tz6 zp zn zk zv zc)])
    (ret : ∀ h' tk' , Fr h₀ L h' m → News h₀ L h' [(c, instObj 189 dc),
      (dc, cacheD w.params tc1 tc2 tc3 tc4 tc5 (.ref d) (.ref x) (.ref z) mx af),
      (d, dictK w xs n),
      (x, instObj 53 dx),
      (dx, nodeD w.params tx1 tx2 tx3 tx4 tx5 tx6 .none rk xk xv xc),
      (r, instObj 53 dr),
      (dr, nodeD w.params tr1 tr2 tr3 tr4 tr5 tr6 (.ref x) rn rk rv rc),
      (z, instObj 53 dz),
      (dz, nodeD w.params tz1 tz2 tz3 tz4 tz5 tz6 zp .none zk zv zc)] → Keep s.heap h' [c, dc, d, x, dx, r, dr, z, dz] → Q .none { s with heap := h', toks := tk' }) :
    wpAny (model prog w) (ktrTop dp un gd cn cs L a ccd cl outer) (call (.ref 149) [.ref c, .ref x]) Q E s := by
  have hn0 := hn
  simp only [List.nodup_cons, List.mem_cons, List.not_mem_nil, or_false, not_or, List.nodup_nil, not_false_eq_true, and_true] at hn
  obtain ⟨⟨n_0_1, n_0_2, n_0_3, n_0_4, n_0_5, n_0_6, n_0_7, n_0_8⟩, ⟨n_1_2, n_1_3, n_1_4, n_1_5, n_1_6, n_1_7, n_1_8⟩, ⟨n_2_3, n_2_4, n_2_5, n_2_6, n_2_7, n_2_8⟩, ⟨n_3_4, n_3_5, n_3_6, n_3_7, n_3_8⟩, ⟨n_4_5, n_4_6, n_4_7, n_4_8⟩, ⟨n_5_6, n_5_7, n_5_8⟩, ⟨n_6_7, n_6_8⟩, n_7_8⟩ := hn
  refine wpAny_call ?_
  k_dflt ktr_enter
  rename_i g' L' h' F' N' B' X' T' kk'
  k_steps
  all_goals (
    try dsimp only
    try (k_unfold; try dsimp only)
    exact ⟨_, _, _, by assumption, by assumption, fun kF kN kk _ => ret _ _ kF kN kk⟩)

set_option maxHeartbeats 4000000 in
theorem ra_mid1 {dp un : Nat} {gd : Option (List Code)} {cn : Str} {cs : Scope} {a : Addr} {ccd : Value} {cl : List (Str × Addr)} {outer : List Env} {A₀ : Around} {base h₀ : Heap} {L : Addr} {m : Str → Option Value} {s : Shared} {Q E : Value → Shared → Prop}
    {tc1 tc2 tc3 tc4 tc5 : Tok} {tx1 tx2 tx3 tx4 tx5 tx6 tr1 tr2 tr3 tr4 tr5 tr6 ty1 ty2 ty3 ty4 ty5 ty6 : Tok} {c dc d : Addr} {mx af : Value} {xs : Ents} {n : Nat} {x dx : Addr} {xk xv xc : Value} {r dr : Addr} {rp rn rk rv rc : Value} {y dy : Addr} {yp yn yk yv yc : Value} {ky : Key} {l dl : Addr}
    (B : Below A₀ base outer h₀) (F : Fr h₀ L s.heap m) (X : (hd.heap_39 w.params).In h₀) (T : Top p loose mean mg mb h₀) (hk : cs.kind = .function) (hd : dp + 20 < recursionLimit) (hu : un + 200 < cLine) (hn : [c, dc, d, x, dx, r, dr, y, dy, l].Nodup)
    (hx : Keyed prog w s.heap xs) (hy : IsKey prog w s.heap ky yk) (hly : look xs ky = some (.ref y)) (hlo : s.heap.get? l = some (instObj 53 dl)) (hhr : handedIn rk = true) (hhy : handedIn yk = true)
    (N : News h₀ L s.heap [(c, instObj 189 dc),
      (dc, cacheD w.params tc1 tc2 tc3 tc4 tc5 (.ref d) (.ref r) (.ref l) mx af),
      (d, dictK w xs n),
      (x, instObj 53 dx),
      (dx, nodeD w.params tx1 tx2 tx3 tx4 tx5 tx6 (.ref r) yk xk xv xc),
      (r, instObj 53 dr),
      (dr, nodeD w.params tr1 tr2 tr3 tr4 tr5 tr6 rp rn rk rv rc),
      (y, instObj 53 dy),
      (dy, nodeD w.params ty1 ty2 ty3 ty4 ty5 ty6 yp yn yk yv yc)])
    (ret : ∀ h' tk' , Fr h₀ L h' m → News h₀ L h' [(c, instObj 189 dc),
      (dc, cacheD w.params tc1 tc2 tc3 tc4 tc5 (.ref d) (.ref x) (.ref l) mx af),
      (d, dictK w xs n),
      (x, instObj 53 dx),
      (dx, nodeD w.params tx1 tx2 tx3 tx4 tx5 tx6 .none rk xk xv xc),
      (r, instObj 53 dr),
      (dr, nodeD w.params tr1 tr2 tr3 tr4 tr5 tr6 (.ref x) yk rk rv rc),
      (y, instObj 53 dy),
      (dy, nodeD w.params ty1 ty2 ty3 ty4 ty5 ty6 (.ref r) yn yk yv yc)] → Keep s.heap h' [c, dc, d, x, dx, r, dr, y, dy] → Q .none { s with heap := h', toks := tk' }) :
    wpAny (model prog w) (ktrTop dp un gd cn cs L a ccd cl outer) (call (.ref 149) [.ref c, .ref x]) Q E s := by
  have hn0 := hn
  simp only [List.nodup_cons, List.mem_cons, List.not_mem_nil, or_false, not_or, List.nodup_nil, not_false_eq_true, and_true] at hn
  obtain ⟨⟨n_0_1, n_0_2, n_0_3, n_0_4, n_0_5, n_0_6, n_0_7, n_0_8, n_0_9⟩, ⟨n_1_2, n_1_3, n_1_4, n_1_5, n_1_6, n_1_7, n_1_8, n_1_9⟩, ⟨n_2_3, n_2_4, n_2_5, n_2_6, n_2_7, n_2_8, n_2_9⟩, ⟨n_3_4, n_3_5, n_3_6, n_3_7, n_3_8, n_3_9⟩, ⟨n_4_5, n_4_6, n_4_7, n_4_8, n_4_9⟩, ⟨n_5_6, n_5_7, n_5_8, n_5_9⟩, ⟨n_6_7, n_6_8, n_6_9⟩, ⟨n_7_8, n_7_9⟩, n_8_9⟩ := hn
  refine wpAny_call ?_
  k_dflt ktr_enter
  rename_i g' L' h' F' N' B' X' T' kk'
  have hc9 : ∀ q9 ∈ ([(c, instObj 189 dc),
      (dc, cacheD w.params tc1 tc2 tc3 tc4 tc5 (.ref d) (.ref r) (.ref l) mx af),
      (d, dictK w xs n),
      (x, instObj 53 dx),
      (dx, nodeD w.params tx1 tx2 tx3 tx4 tx5 tx6 (.ref r) yk xk xv xc),
      (r, instObj 53 dr),
      (dr, nodeD w.params tr1 tr2 tr3 tr4 tr5 tr6 rp rn rk rv rc),
      (y, instObj 53 dy),
      (dy, nodeD w.params ty1 ty2 ty3 ty4 ty5 ty6 yp yn yk yv yc)] : List (Addr × Obj)), q9.2.cls ≠ .type "tuple" := by simp only [List.forall_mem_cons]; simp
  have hx9 := lift_keyed hx kk' N hc9
  have hy9 := lift_key hy kk' N hc9
  have hlo9 := kk' _ _ hlo (by simp only [List.map_cons, List.map_nil, List.mem_cons, List.not_mem_nil, or_false, not_or]; (repeat' constructor) <;> first | assumption | exact Ne.symm (by assumption))
  clear hc9
  k_steps
  all_goals (
    try dsimp only
    try (k_unfold; try dsimp only)
    exact ⟨_, _, _, by assumption, by assumption, fun kF kN kk _ => ret _ _ kF kN kk⟩)

set_option maxHeartbeats 4000000 in
theorem ra_mid {dp un : Nat} {gd : Option (List Code)} {cn : Str} {cs : Scope} {a : Addr} {ccd : Value} {cl : List (Str × Addr)} {outer : List Env} {A₀ : Around} {base h₀ : Heap} {L : Addr} {m : Str → Option Value} {s : Shared} {Q E : Value → Shared → Prop}
    {tc1 tc2 tc3 tc4 tc5 : Tok} {tx1 tx2 tx3 tx4 tx5 tx6 tr1 tr2 tr3 tr4 tr5 tr6 ty1 ty2 ty3 ty4 ty5 ty6 tz1 tz2 tz3 tz4 tz5 tz6 : Tok} {c dc d : Addr} {mx af : Value} {xs : Ents} {n : Nat} {x dx : Addr} {xk xv xc : Value} {r dr : Addr} {rp rn rk rv rc : Value} {y dy : Addr} {yp yn yk yv yc : Value} {z dz : Addr} {zp zn zk zv zc : Value} {ky : Key} {l dl : Addr}
    (B : Below A₀ base outer h₀) (F : Fr h₀ L s.heap m) (X : (hd.heap_39 w.params).In h₀) (T : Top p loose mean mg mb h₀) (hk : cs.kind = .function) (hd : dp + 20 < recursionLimit) (hu : un + 200 < cLine) (hn : [c, dc, d, x, dx, r, dr, y, dy, z, dz, l].Nodup)
    (hx : Keyed prog w s.heap xs) (hy : IsKey prog w s.heap ky yk) (hly : look xs ky = some (.ref y)) (hlo : s.heap.get? l = some (instObj 53 dl)) (hhr : handedIn rk = true) (hhy : handedIn yk = true)
    (N : News h₀ L s.heap [(c, instObj 189 dc),
      (dc, cacheD w.params tc1 tc2 tc3 tc4 tc5 (.ref d) (.ref r) (.ref l) mx af),
      (d, dictK w xs n),
      (x, instObj 53 dx),
      (dx, nodeD w.params tx1 tx2 tx3 tx4 tx5 tx6 (.ref z) yk xk xv xc),
      (r, instObj 53 dr),
      (dr, nodeD w.params tr1 tr2 tr3 tr4 tr5 tr6 rp rn rk rv rc),
      (y, instObj 53 dy),
      (dy, nodeD w.params ty1 ty2 ty3 ty4 ty5 ty6 yp yn yk yv yc),
      (z, instObj 53 dz),
      (dz, nodeD w.params tz1 tz2 tz3 tz4 tz5 tz6 zp zn zk zv zc)])
    (ret : ∀ h' tk' , Fr h₀ L h' m → News h₀ L h' [(c, instObj 189 dc),
      (dc, cacheD w.params tc1 tc2 tc3 tc4 tc5 (.ref d) (.ref x) (.ref l) mx af),
      (d, dictK w xs n),
      (x, instObj 53 dx),
      (dx, nodeD w.params tx1 tx2 tx3 tx4 tx5 tx6 .none rk xk xv xc),
      (r, instObj 53 dr),
      (dr, nodeD w.params tr1 tr2 tr3 tr4 tr5 tr6 (.ref x) rn rk rv rc),
      (y, instObj 53 dy),
      (dy, nodeD w.params ty1 ty2 ty3 ty4 ty5 ty6 (.ref z) yn yk yv yc),
      (z, instObj 53 dz),
      (dz, nodeD w.params tz1 tz2 tz3 tz4 tz5 tz6 zp yk zk zv zc)] → Keep s.heap h' [c, dc, d, x, dx, r, dr, y, dy, z, dz] → Q .none { s with heap := h', toks := tk' }) :
    wpAny (model prog w) (ktrTop dp un gd cn cs L a ccd cl outer) (call (.ref 149) [.ref c, .ref x]) Q E s := by
  have hn0 := hn
  simp only [List.nodup_cons, List.mem_cons, List.not_mem_nil, or_false, not_or, List.nodup_nil, not_false_eq_true, and_true] at hn
  obtain ⟨⟨n_0_1, n_0_2, n_0_3, n_0_4, n_0_5, n_0_6, n_0_7, n_0_8, n_0_9, n_0_10, n_0_11⟩, ⟨n_1_2, n_1_3, n_1_4, n_1_5, n_1_6, n_1_7, n_1_8, n_1_9, n_1_10, n_1_11⟩, ⟨n_2_3, n_2_4, n_2_5, n_2_6, n_2_7, n_2_8, n_2_9, n_2_10, n_2_11⟩, ⟨n_3_4, n_3_5, n_3_6, n_3_7, n_3_8, n_3_9, n_3_10, n_3_11⟩, ⟨n_4_5, n_4_6, n_4_7, n_4_8, n_4_9, n_4_10, n_4_11⟩, ⟨n_5_6, n_5_7, n_5_8, n_5_9, n_5_10, n_5_11⟩, ⟨n_6_7, n_6_8, n_6_9, n_6_10, n_6_11⟩, ⟨n_7_8, n_7_9, n_7_10, n_7_11⟩, ⟨n_8_9, n_8_10, n_8_11⟩, ⟨n_9_10, n_9_11⟩, n_10_11⟩ := hn
  refine wpAny_call ?_
  k_dflt ktr_enter
  rename_i g' L' h' F' N' B' X' T' kk'
  have hc9 : ∀ q9 ∈ ([(c, instObj 189 dc),
      (dc, cacheD w.params tc1 tc2 tc3 tc4 tc5 (.ref d) (.ref r) (.ref l) mx af),
      (d, dictK w xs n),
      (x, instObj 53 dx),
      (dx, nodeD w.params tx1 tx2 tx3 tx4 tx5 tx6 (.ref z) yk xk xv xc),
      (r, instObj 53 dr),
      (dr, nodeD w.params tr1 tr2 tr3 tr4 tr5 tr6 rp rn rk rv rc),
      (y, instObj 53 dy),
      (dy, nodeD w.params ty1 ty2 ty3 ty4 ty5 ty6 yp yn yk yv yc),
      (z, instObj 53 dz),
      (dz, nodeD w.params tz1 tz2 tz3 tz4 tz5 tz6 zp zn zk zv zc)] : List (Addr × Obj)), q9.2.cls ≠ .type "tuple" := by simp only [List.forall_mem_cons]; simp
  have hx9 := lift_keyed hx kk' N hc9
  have hy9 := lift_key hy kk' N hc9
  have hlo9 := kk' _ _ hlo (by simp only [List.map_cons, List.map_nil, List.mem_cons, List.not_mem_nil, or_false, not_or]; (repeat' constructor) <;> first | assumption | exact Ne.symm (by assumption))
  clear hc9
  k_steps
  all_goals (
    try dsimp only
    try (k_unfold; try dsimp only)
    exact ⟨_, _, _, by assumption, by assumption, fun kF kN kk _ => ret _ _ kF kN kk⟩)

set_option maxHeartbeats 4000000 in
theorem ra_mid1y {dp un : Nat} {gd : Option (List Code)} {cn : Str} {cs : Scope} {a : Addr} {ccd : Value} {cl : List (Str × Addr)} {outer : List Env} {A₀ : Around} {base h₀ : Heap} {L : Addr} {m : Str → Option Value} {s : Shared} {Q E : Value → Shared → Prop}
    {tc1 tc2 tc3 tc4 tc5 : Tok} {tx1 tx2 tx3 tx4 tx5 tx6 tr1 tr2 tr3 tr4 tr5 tr6 ty1 ty2 ty3 ty4 ty5 ty6 : Tok} {c dc d : Addr} {mx af : Value} {xs : Ents} {n : Nat} {x dx : Addr} {xk xv xc : Value} {r dr : Addr} {rp rn rk rv rc : Value} {y dy : Addr} {yp yn yk yv yc : Value} {ky : Key}
    (B : Below A₀ base outer h₀) (F : Fr h₀ L s.heap m) (X : (hd.heap_39 w.params).In h₀) (T : Top p loose mean mg mb h₀) (hk : cs.kind = .function) (hd : dp + 20 < recursionLimit) (hu : un + 200 < cLine) (hn : [c, dc, d, x, dx, r, dr, y, dy].Nodup)
    (hx : Keyed prog w s.heap xs) (hy : IsKey prog w s.heap ky yk) (hly : look xs ky = some (.ref y))  (hhr : handedIn rk = true) (hhy : handedIn yk = true)
    (N : News h₀ L s.heap [(c, instObj 189 dc),
      (dc, cacheD w.params tc1 tc2 tc3 tc4 tc5 (.ref d) (.ref r) (.ref y) mx af),
      (d, dictK w xs n),
      (x, instObj 53 dx),
      (dx, nodeD w.params tx1 tx2 tx3 tx4 tx5 tx6 (.ref r) yk xk xv xc),
      (r, instObj 53 dr),
      (dr, nodeD w.params tr1 tr2 tr3 tr4 tr5 tr6 rp rn rk rv rc),
      (y, instObj 53 dy),
      (dy, nodeD w.params ty1 ty2 ty3 ty4 ty5 ty6 yp yn yk yv yc)])
    (ret : ∀ h' tk' , Fr h₀ L h' m → News h₀ L h' [(c, instObj 189 dc),
      (dc, cacheD w.params tc1 tc2 tc3 tc4 tc5 (.ref d) (.ref x) (.ref y) mx af),
      (d, dictK w xs n),
      (x, instObj 53 dx),
      (dx, nodeD w.params tx1 tx2 tx3 tx4 tx5 tx6 .none rk xk xv xc),
      (r, instObj 53 dr),
      (dr, nodeD w.params tr1 tr2 tr3 tr4 tr5 tr6 (.ref x) yk rk rv rc),
      (y, instObj 53 dy),
      (dy, nodeD w.params ty1 ty2 ty3 ty4 ty5 ty6 (.ref r) yn yk yv yc)] → Keep s.heap h' [c, dc, d, x, dx, r, dr, y, dy] → Q .none { s with heap := h', toks := tk' }) :
    wpAny (model prog w) (ktrTop dp un gd cn cs L a ccd cl outer) (call (.ref 149) [.ref c, .ref x]) Q E s := by
  have hn0 := hn
  simp only [List.nodup_cons, List.mem_cons, List.not_mem_nil, or_false, not_or, List.nodup_nil, not_false_eq_true, and_true] at hn
  obtain ⟨⟨n_0_1, n_0_2, n_0_3, n_0_4, n_0_5, n_0_6, n_0_7, n_0_8⟩, ⟨n_1_2, n_1_3, n_1_4, n_1_5, n_1_6, n_1_7, n_1_8⟩, ⟨n_2_3, n_2_4, n_2_5, n_2_6, n_2_7, n_2_8⟩, ⟨n_3_4, n_3_5, n_3_6, n_3_7, n_3_8⟩, ⟨n_4_5, n_4_6, n_4_7, n_4_8⟩, ⟨n_5_6, n_5_7, n_5_8⟩, ⟨n_6_7, n_6_8⟩, n_7_8⟩ := hn
  refine wpAny_call ?_
  k_dflt ktr_enter
  rename_i g' L' h' F' N' B' X' T' kk'
  have hc9 : ∀ q9 ∈ ([(c, instObj 189 dc),
      (dc, cacheD w.params tc1 tc2 tc3 tc4 tc5 (.ref d) (.ref r) (.ref y) mx af),
      (d, dictK w xs n),
      (x, instObj 53 dx),
      (dx, nodeD w.params tx1 tx2 tx3 tx4 tx5 tx6 (.ref r) yk xk xv xc),
      (r, instObj 53 dr),
      (dr, nodeD w.params tr1 tr2 tr3 tr4 tr5 tr6 rp rn rk rv rc),
      (y, instObj 53 dy),
      (dy, nodeD w.params ty1 ty2 ty3 ty4 ty5 ty6 yp yn yk yv yc)] : List (Addr × Obj)), q9.2.cls ≠ .type "tuple" := by simp only [List.forall_mem_cons]; simp
  have hx9 := lift_keyed hx kk' N hc9
  have hy9 := lift_key hy kk' N hc9
  clear hc9
  k_steps
  all_goals (
    try dsimp only
    try (k_unfold; try dsimp only)
    exact ⟨_, _, _, by assumption, by assumption, fun kF kN kk _ => ret _ _ kF kN kk⟩)

set_option maxHeartbeats 4000000 in
theorem ra_midy {dp un : Nat} {gd : Option (List Code)} {cn : Str} {cs : Scope} {a : Addr} {ccd : Value} {cl : List (Str × Addr)} {outer : List Env} {A₀ : Around} {base h₀ : Heap} {L : Addr} {m : Str → Option Value} {s : Shared} {Q E : Value → Shared → Prop}
    {tc1 tc2 tc3 tc4 tc5 : Tok} {tx1 tx2 tx3 tx4 tx5 tx6 tr1 tr2 tr3 tr4 tr5 tr6 ty1 ty2 ty3 ty4 ty5 ty6 tz1 tz2 tz3 tz4 tz5 tz6 : Tok} {c dc d : Addr} {mx af : Value} {xs : Ents} {n : Nat} {x dx : Addr} {xk xv xc : Value} {r dr : Addr} {rp rn rk rv rc : Value} {y dy : Addr} {yp yn yk yv yc : Value} {z dz : Addr} {zp zn zk zv zc : Value} {ky : Key}
    (B : Below A₀ base outer h₀) (F : Fr h₀ L s.heap m) (X : (hd.heap_39 w.params).In h₀) (T : Top p loose mean mg mb h₀) (hk : cs.kind = .function) (hd : dp + 20 < recursionLimit) (hu : un + 200 < cLine) (hn : [c, dc, d, x, dx, r, dr, y, dy, z, dz].Nodup)
    (hx : Keyed prog w s.heap xs) (hy : IsKey prog w s.heap ky yk) (hly : look xs ky = some (.ref y))  (hhr : handedIn rk = true) (hhy : handedIn yk = true)
    (N : News h₀ L s.heap [(c, instObj 189 dc),
      (dc, cacheD w.params tc1 tc2 tc3 tc4 tc5 (.ref d) (.ref r) (.ref y) mx af),
      (d, dictK w xs n),
      (x, instObj 53 dx),
      (dx, nodeD w.params tx1 tx2 tx3 tx4 tx5 tx6 (.ref z) yk xk xv xc),
      (r, instObj 53 dr),
      (dr, nodeD w.params tr1 tr2 tr3 tr4 tr5 tr6 rp rn rk rv rc),
      (y, instObj 53 dy),
      (dy, nodeD w.params ty1 ty2 ty3 ty4 ty5 ty6 yp yn yk yv yc),
      (z, instObj 53 dz),
      (dz, nodeD w.params tz1 tz2 tz3 tz4 tz5 tz6 zp zn zk zv zc)])
    (ret : ∀ h' tk' , Fr h₀ L h' m → News h₀ L h' [(c, instObj 189 dc),
      (dc, cacheD w.params tc1 tc2 tc3 tc4 tc5 (.ref d) (.ref x) (.ref y) mx af),
      (d, dictK w xs n),
      (x, instObj 53 dx),
      (dx, nodeD w.params tx1 tx2 tx3 tx4 tx5 tx6 .none rk xk xv xc),
      (r, instObj 53 dr),
      (dr, nodeD w.params tr1 tr2 tr3 tr4 tr5 tr6 (.ref x) rn rk rv rc),
      (y, instObj 53 dy),
      (dy, nodeD w.params ty1 ty2 ty3 ty4 ty5 ty6 (.ref z) yn yk yv yc),
      (z, instObj 53 dz),
      (dz, nodeD w.params tz1 tz2 tz3 tz4 tz5 tz6 zp yk zk zv zc)] → Keep s.heap h' [c, dc, d, x, dx, r, dr, y, dy, z, dz] → Q .none { s with heap := h', toks := tk' }) :
    wpAny (model prog w) (ktrTop dp un gd cn cs L a ccd cl outer) (call (.ref 149) [.ref c, .ref x]) Q E s := by
  have hn0 := hn
  simp only [List.nodup_cons, List.mem_cons, List.not_mem_nil, or_false, not_or, List.nodup_nil, not_false_eq_true, and_true] at hn
  obtain ⟨⟨n_0_1, n_0_2, n_0_3, n_0_4, n_0_5, n_0_6, n_0_7, n_0_8, n_0_9, n_0_10⟩, ⟨n_1_2, n_1_3, n_1_4, n_1_5, n_1_6, n_1_7, n_1_8, n_1_9, n_1_10⟩, ⟨n_2_3, n_2_4, n_2_5, n_2_6, n_2_7, n_2_8, n_2_9, n_2_10⟩, ⟨n_3_4, n_3_5, n_3_6, n_3_7, n_3_8, n_3_9, n_3_10⟩, ⟨n_4_5, n_4_6, n_4_7, n_4_8, n_4_9, n_4_10⟩, ⟨n_5_6, n_5_7, n_5_8, n_5_9, n_5_10⟩, ⟨n_6_7, n_6_8, n_6_9, n_6_10⟩, ⟨n_7_8, n_7_9, n_7_10⟩, ⟨n_8_9, n_8_10⟩, n_9_10⟩ := hn
  refine wpAny_call ?_
  k_dflt ktr_enter
  rename_i g' L' h' F' N' B' X' T' kk'
  have hc9 : ∀ q9 ∈ ([(c, instObj 189 dc),
      (dc, cacheD w.params tc1 tc2 tc3 tc4 tc5 (.ref d) (.ref r) (.ref y) mx af),
      (d, dictK w xs n),
      (x, instObj 53 dx),
      (dx, nodeD w.params tx1 tx2 tx3 tx4 tx5 tx6 (.ref z) yk xk xv xc),
      (r, instObj 53 dr),
      (dr, nodeD w.params tr1 tr2 tr3 tr4 tr5 tr6 rp rn rk rv rc),
      (y, instObj 53 dy),
      (dy, nodeD w.params ty1 ty2 ty3 ty4 ty5 ty6 yp yn yk yv yc),
      (z, instObj 53 dz),
      (dz, nodeD w.params tz1 tz2 tz3 tz4 tz5 tz6 zp zn zk zv zc)] : List (Addr × Obj)), q9.2.cls ≠ .type "tuple" := by simp only [List.forall_mem_cons]; simp
  have hx9 := lift_keyed hx kk' N hc9
  have hy9 := lift_key hy kk' N hc9
  clear hc9
  k_steps
  all_goals (
    try dsimp only
    try (k_unfold; try dsimp only)
    exact ⟨_, _, _, by assumption, by assumption, fun kF kN kk _ => ret _ _ kF kN kk⟩)
end
end Mine
end
section
theorem Mine.off_Walk3 : True := by w_top off; exact True.intro
local macro_rules | `(tactic| walk_at "no such word") => `(tactic| fail "no step")
set_option maxRecDepth 100000
set_option linter.unusedVariables false
namespace Mine
open PySem PySem.W PySem.Spec PySem.Calls PyProof.Rows
theorem fillC : (PySem.Challenge.rw_bb0035_01 = PySem.Challenge.rw_bb0035_01) ∧ (hd.heap_39 = hd.heap_39) := by k_fill; exact ⟨rfl, rfl⟩

local macro_rules | `(tactic| k_ne) => `(tactic| first | (refine neN ?_; (try dsimp only); first | with_reducible assumption | exact Ne.symm (by with_reducible assumption)))
local macro_rules | `(tactic| ktr_enter) => `(tactic| (refine' code_T ?k1 ?k2 ?k3 ?k4 ?k5 ?kA ?kF ?kK ?k6 ?k7 ?k8 ?k9 ?kB ?_ ?c2 ?c3 ?c4 ?c5; (case kA => exact rfl); (case kF => exact rfl); (case kK => assumption); (case k1 => k_asm); (case k2 => k_asm); (case k3 => k_asm); (case k4 => k_asm); (case k5 => k_asm); (case k6 => k_is); (case k7 => k_is); (case k8 => ktr_room); (case k9 => first | exact BindsTo.of_eq rfl | exact binds_K (by k_in) rfl (by k_is) rfl rfl rfl); (case c5 => decide); (case kB => exact locs rfl); (case c2 => exact rfl); (case c3 => exact rfl); (case c4 => exact rfl); k_whole; intro g' L' h' F' N' B' X' T' kk'; (try dsimp only); (try k_fold)))
local macro_rules | `(tactic| k_room) => `(tactic| ktr_room)
local macro_rules | `(tactic| k_units) => `(tactic| ktr_units)
local macro_rules | `(tactic| k_handed) => `(tactic| with_reducible assumption)
local macro_rules | `(tactic| walk_at "subscriptTail") => `(tactic| (k_here; (with_reducible show wpAny _ _ (subscriptTail _ _ (Value.ref _) _) _ _ _); k_dflt (refine' sub_key ?k1 ?k2 ?k3 ?k4 ?k5 ?k6 ?k7 ?k8 ?_; (case k1 => k_asm); (case k2 => k_asm); (case k3 => k_mem); (case k4 => k_asm); (case k5 => k_asm); (case k6 => k_asm); (case k7 => ktr_units); (case k8 => with_unfolding_all rfl); k_whole); intro tk9))
local macro_rules | `(tactic| walk_at "compareOp IsNot") => `(tactic| (k_here; (with_reducible show wpAny _ _ (compareOp CmpOp.IsNot _ Value.none) _ _ _); k_dflt (refine' isNot_key_none ?a ?_; (case a => with_reducible assumption); k_whole)))
local macro_rules | `(tactic| walk_at "compareOp Is") => `(tactic| (k_here; (with_reducible show wpAny _ _ (compareOp CmpOp.Is _ Value.none) _ _ _); k_dflt (refine' is_key_none ?a ?_; (case a => with_reducible assumption); k_whole)))
local macro_rules | `(tactic| walk_at "compareOp Is ref ref") => `(tactic| (k_here; (with_reducible show wpAny _ _ (compareOp CmpOp.Is (Value.ref _) (Value.ref _)) _ _ _); k_dflt (refine' is_ref_ne ?a ?b ?c ?d ?_; (case a => first | with_reducible assumption | exact Ne.symm (by with_reducible assumption)); (case b => first | exact News.get (by k_asm) (by k_mem) | exact Fr.keep (by k_asm) _ _ (by with_reducible assumption)); (case c => first | exact News.get (by k_asm) (by k_mem) | exact Fr.keep (by k_asm) _ _ (by with_reducible assumption)); (case d => intro q9; cases q9); k_whole)))
local macro_rules | `(tactic| walk_at "compareOp In") => `(tactic| (k_here; (with_reducible show wpAny _ _ (compareOp CmpOp.In _ (Value.ref _)) _ _ _); k_dflt (refine' in_keyN ?k1 ?k2 ?k3 ?k4 ?k5 ?k6 ?k7 _ ?k8 ?_; (case k1 => k_asm); (case k2 => k_asm); (case k3 => k_mem); (case k4 => k_asm); (case k5 => k_asm); (case k6 => k_asm); (case k7 => ktr_units); (case k8 => with_reducible assumption); k_whole); intro tk9))
local macro_rules | `(tactic| walk_at "call builtin:len") => `(tactic| (k_here; (with_reducible show wpAny _ _ (call (Value.builtin "len") [Value.ref _]) _ _ _); k_dflt (refine' len_keyN ?k1 ?k2 ?k3 ?k4 ?_; (case k1 => k_asm); (case k2 => k_mem); (case k3 => k_asm); (case k4 => first | with_reducible assumption | (simp only [List.length_append, List.length_cons, List.length_nil]; omega) | omega); k_whole); intro tk8 tk9))
local macro_rules | `(tactic| walk_at "getMethod ref") => `(tactic| (k_here; (with_reducible show wpAny _ _ (getMethod (Value.ref _) (Str.ofString "get") _) _ _ _); k_dflt (refine' methodN ?k1 ?k2 PySem.F.slot_dict_get PySem.F.type_dict_get ?_; (case k1 => k_asm); (case k2 => k_mem); k_whole)))
local macro_rules | `(tactic| walk_at "getMethod ref") => `(tactic| (k_here; (with_reducible show wpAny _ _ (getMethod (Value.ref _) (Str.ofString "pop") _) _ _ _); k_dflt (refine' methodN ?k1 ?k2 PySem.F.slot_dict_pop PySem.F.type_dict_pop ?_; (case k1 => k_asm); (case k2 => k_mem); k_whole)))
local macro_rules | `(tactic| walk_at "call builtin:dict.get") => `(tactic| (k_here; (with_reducible show wpAny _ _ (call (Value.builtin _) [Value.ref _, _, _]) _ _ _); k_dflt (refine' get2_keyN ?k1 ?k2 ?k3 ?k4 ?k5 ?k6 ?k7 ?k8 ?_; (case k1 => k_asm); (case k2 => k_asm); (case k3 => k_mem); (case k4 => k_asm); (case k5 => k_asm); (case k6 => k_asm); (case k7 => ktr_units); (case k8 => k_asm); k_whole); intro tk9; (try dsimp only [Option.getD])))
local macro_rules | `(tactic| walk_at "call builtin:dict.pop") => `(tactic| (k_here; (with_reducible show wpAny _ _ (call (Value.builtin _) [Value.ref _, _]) _ _ _); k_dflt (refine' pop_keyN ?k1 ?k2 ?k3 ?k4 ?k5 ?k6 ?k7 ?k8 ?_; (case k1 => k_asm); (case k2 => k_asm); (case k3 => k_upd); (case k4 => k_asm); (case k5 => k_asm); (case k6 => ktr_units); (case k7 => k_asm); (case k8 => k_asm); k_whole); intro h9 tk9 F' N'; (try k_sweep)))
local macro_rules | `(tactic| walk_at "setItem ref") => `(tactic| (k_here; (with_reducible show wpAny _ _ (setItem (Value.ref _) _ _) _ _ _); k_dflt (refine' setItem_keyN ?k1 ?k2 ?k3 ?k4 ?k5 ?k6 ?k7 ?k8 ?_; (case k1 => k_asm); (case k2 => k_asm); (case k3 => k_upd); (case k4 => k_asm); (case k5 => k_asm); (case k6 => ktr_units); (case k7 => k_asm); (case k8 => k_asm); k_whole); intro h9 tk9 F' N'; (try k_sweep)))
local macro_rules | `(tactic| walk_at "call ref") => `(tactic| ((with_reducible show wpAny _ _ (call (Value.ref 149) _) _ _ _); refine Hold.intro ?_))

section
variable {prog : Program} {w : World} {p : Program} {loose : List Str} {mean : ExcName → Option Value} {mg mb : Str → Option Value}

set_option maxHeartbeats 4000000 in
theorem get_miss {dp un : Nat} {gd : Option (List Code)} {cn : Str} {cs : Scope} {a : Addr} {ccd : Value} {cl : List (Str × Addr)} {outer : List Env} {A₀ : Around} {base h₀ : Heap} {L : Addr} {m : Str → Option Value} {s : Shared} {Q E : Value → Shared → Prop}
    {tc1 tc2 tc3 tc4 tc5 : Tok} {c dc d : Addr} {mx af : Value} {xs : Ents} {n : Nat} {mru lru : Value} {kx : Key} {key dflt : Value}
    (B : Below A₀ base outer h₀) (F : Fr h₀ L s.heap m) (X : (hd.heap_39 w.params).In h₀) (T : Top p loose mean mg mb h₀) (hk : cs.kind = .function) (hd : dp + 30 < recursionLimit) (hu : un + 300 < cLine) (hn : [c, dc, d].Nodup)
    (hx : Keyed prog w s.heap xs) (hkx : IsKey prog w s.heap kx key) (hlx : look xs kx = none) (hd0 : (d == sysModules) = false)
    (N : News h₀ L s.heap [(c, instObj 189 dc),
      (dc, cacheD w.params tc1 tc2 tc3 tc4 tc5 (.ref d) mru lru mx af),
      (d, dictK w xs n)])
    (ret : ∀ h' tk' , Fr h₀ L h' m → News h₀ L h' [(c, instObj 189 dc),
      (dc, cacheD w.params tc1 tc2 tc3 tc4 tc5 (.ref d) mru lru mx af),
      (d, dictK w xs n)] → Keep s.heap h' [c, dc, d] → Q dflt { s with heap := h', toks := tk' }) :
    wpAny (model prog w) (ktrTop dp un gd cn cs L a ccd cl outer) (call (.ref 116) [.ref c, key, dflt]) Q E s := by
  have hn0 := hn
  simp only [List.nodup_cons, List.mem_cons, List.not_mem_nil, or_false, not_or, List.nodup_nil, not_false_eq_true, and_true] at hn
  obtain ⟨⟨n_0_1, n_0_2⟩, n_1_2⟩ := hn
  refine wpAny_call ?_
  k_dflt ktr_enter
  rename_i g' L' h' F' N' B' X' T' kk'
  have hc9 : ∀ q9 ∈ ([(c, instObj 189 dc),
      (dc, cacheD w.params tc1 tc2 tc3 tc4 tc5 (.ref d) mru lru mx af),
      (d, dictK w xs n)] : List (Addr × Obj)), q9.2.cls ≠ .type "tuple" := by simp only [List.forall_mem_cons]; simp
  have hx9 := lift_keyed hx kk' N hc9
  have hkx9 := lift_key hkx kk' N hc9
  clear hc9
  k_steps
  all_goals (
    try dsimp only
    try (k_unfold; try dsimp only)
    exact ⟨_, _, _, by assumption, by assumption, fun kF kN kk _ => ret _ _ kF kN kk⟩)

set_option maxHeartbeats 4000000 in
theorem get_mru {dp un : Nat} {gd : Option (List Code)} {cn : Str} {cs : Scope} {a : Addr} {ccd : Value} {cl : List (Str × Addr)} {outer : List Env} {A₀ : Around} {base h₀ : Heap} {L : Addr} {m : Str → Option Value} {s : Shared} {Q E : Value → Shared → Prop}
    {tc1 tc2 tc3 tc4 tc5 : Tok} {tx1 tx2 tx3 tx4 tx5 tx6 : Tok} {c dc d : Addr} {mx af : Value} {xs : Ents} {n : Nat} {x dx : Addr} {xp xn xk xv xc : Value} {lru : Value} {kx : Key} {key dflt : Value}
    (B : Below A₀ base outer h₀) (F : Fr h₀ L s.heap m) (X : (hd.heap_39 w.params).In h₀) (T : Top p loose mean mg mb h₀) (hk : cs.kind = .function) (hd : dp + 30 < recursionLimit) (hu : un + 300 < cLine) (hn : [c, dc, d, x, dx].Nodup)
    (hx : Keyed prog w s.heap xs) (hkx : IsKey prog w s.heap kx key) (hlx : look xs kx = some (.ref x)) (hhv : handedIn xv = true)  (hd0 : (d == sysModules) = false)
    (N : News h₀ L s.heap [(c, instObj 189 dc),
      (dc, cacheD w.params tc1 tc2 tc3 tc4 tc5 (.ref d) (.ref x) lru mx af),
      (d, dictK w xs n),
      (x, instObj 53 dx),
      (dx, nodeD w.params tx1 tx2 tx3 tx4 tx5 tx6 xp xn xk xv xc)])
    (ret : ∀ h' tk' , Fr h₀ L h' m → News h₀ L h' [(c, instObj 189 dc),
      (dc, cacheD w.params tc1 tc2 tc3 tc4 tc5 (.ref d) (.ref x) lru mx af),
      (d, dictK w xs n),
      (x, instObj 53 dx),
      (dx, nodeD w.params tx1 tx2 tx3 tx4 tx5 tx6 xp xn xk xv xc)] → Keep s.heap h' [c, dc, d, x, dx] → Q xv { s with heap := h', toks := tk' }) :
    wpAny (model prog w) (ktrTop dp un gd cn cs L a ccd cl outer) (call (.ref 116) [.ref c, key, dflt]) Q E s := by
  have hn0 := hn
  simp only [List.nodup_cons, List.mem_cons, List.not_mem_nil, or_false, not_or, List.nodup_nil, not_false_eq_true, and_true] at hn
  obtain ⟨⟨n_0_1, n_0_2, n_0_3, n_0_4⟩, ⟨n_1_2, n_1_3, n_1_4⟩, ⟨n_2_3, n_2_4⟩, n_3_4⟩ := hn
  refine wpAny_call ?_
  k_dflt ktr_enter
  rename_i g' L' h' F' N' B' X' T' kk'
  have hc9 : ∀ q9 ∈ ([(c, instObj 189 dc),
      (dc, cacheD w.params tc1 tc2 tc3 tc4 tc5 (.ref d) (.ref x) lru mx af),
      (d, dictK w xs n),
      (x, instObj 53 dx),
      (dx, nodeD w.params tx1 tx2 tx3 tx4 tx5 tx6 xp xn xk xv xc)] : List (Addr × Obj)), q9.2.cls ≠ .type "tuple" := by simp only [List.forall_mem_cons]; simp
  have hx9 := lift_keyed hx kk' N hc9
  have hkx9 := lift_key hkx kk' N hc9
  clear hc9
  k_steps
  unfold held
  (rename Fr _ _ _ _ => F8); (rename News _ _ _ _ => N8)
  k_dflt (refine ra_mrux B' F8 X' T' rfl (by first | omega | (dsimp only [ktrTop, Around.deeper]; omega) | (show _ + 1 + _ < _; omega)) (by first | omega | (dsimp only [ktrTop, Around.deeper]; omega) | (show _ + 1 + _ < _; omega)) hn0  N8 (fun h8 tk8 F9 N9 K9 => ?_))
  try clear F8 N8
  try dsimp only
  k_steps
  all_goals (
    try dsimp only
    try (k_unfold; try dsimp only)
    exact ⟨_, _, _, by assumption, by assumption, fun kF kN kk _ => ret _ _ kF kN kk⟩)

set_option maxHeartbeats 4000000 in
theorem get_last1 {dp un : Nat} {gd : Option (List Code)} {cn : Str} {cs : Scope} {a : Addr} {ccd : Value} {cl : List (Str × Addr)} {outer : List Env} {A₀ : Around} {base h₀ : Heap} {L : Addr} {m : Str → Option Value} {s : Shared} {Q E : Value → Shared → Prop}
    {tc1 tc2 tc3 tc4 tc5 : Tok} {tx1 tx2 tx3 tx4 tx5 tx6 tr1 tr2 tr3 tr4 tr5 tr6 : Tok} {c dc d : Addr} {mx af : Value} {xs : Ents} {n : Nat} {x dx : Addr} {xk xv xc : Value} {r dr : Addr} {rp rn rk rv rc : Value} {kx : Key} {key dflt : Value}
    (B : Below A₀ base outer h₀) (F : Fr h₀ L s.heap m) (X : (hd.heap_39 w.params).In h₀) (T : Top p loose mean mg mb h₀) (hk : cs.kind = .function) (hd : dp + 30 < recursionLimit) (hu : un + 300 < cLine) (hn : [c, dc, d, x, dx, r, dr].Nodup)
    (hx : Keyed prog w s.heap xs) (hkx : IsKey prog w s.heap kx key) (hlx : look xs kx = some (.ref x)) (hhv : handedIn xv = true)  (hhr : handedIn rk = true) (hd0 : (d == sysModules) = false)
    (N : News h₀ L s.heap [(c, instObj 189 dc),
      (dc, cacheD w.params tc1 tc2 tc3 tc4 tc5 (.ref d) (.ref r) (.ref x) mx af),
      (d, dictK w xs n),
      (x, instObj 53 dx),
      (dx, nodeD w.params tx1 tx2 tx3 tx4 tx5 tx6 (.ref r) .none xk xv xc),
      (r, instObj 53 dr),
      (dr, nodeD w.params tr1 tr2 tr3 tr4 tr5 tr6 rp rn rk rv rc)])
    (ret : ∀ h' tk' , Fr h₀ L h' m → News h₀ L h' [(c, instObj 189 dc),
      (dc, cacheD w.params tc1 tc2 tc3 tc4 tc5 (.ref d) (.ref x) (.ref r) mx af),
      (d, dictK w xs n),
      (x, instObj 53 dx),
      (dx, nodeD w.params tx1 tx2 tx3 tx4 tx5 tx6 .none rk xk xv xc),
      (r, instObj 53 dr),
      (dr, nodeD w.params tr1 tr2 tr3 tr4 tr5 tr6 (.ref x) .none rk rv rc)] → Keep s.heap h' [c, dc, d, x, dx, r, dr] → Q xv { s with heap := h', toks := tk' }) :
    wpAny (model prog w) (ktrTop dp un gd cn cs L a ccd cl outer) (call (.ref 116) [.ref c, key, dflt]) Q E s := by
  have hn0 := hn
  simp only [List.nodup_cons, List.mem_cons, List.not_mem_nil, or_false, not_or, List.nodup_nil, not_false_eq_true, and_true] at hn
  obtain ⟨⟨n_0_1, n_0_2, n_0_3, n_0_4, n_0_5, n_0_6⟩, ⟨n_1_2, n_1_3, n_1_4, n_1_5, n_1_6⟩, ⟨n_2_3, n_2_4, n_2_5, n_2_6⟩, ⟨n_3_4, n_3_5, n_3_6⟩, ⟨n_4_5, n_4_6⟩, n_5_6⟩ := hn
  refine wpAny_call ?_
  k_dflt ktr_enter
  rename_i g' L' h' F' N' B' X' T' kk'
  have hc9 : ∀ q9 ∈ ([(c, instObj 189 dc),
      (dc, cacheD w.params tc1 tc2 tc3 tc4 tc5 (.ref d) (.ref r) (.ref x) mx af),
      (d, dictK w xs n),
      (x, instObj 53 dx),
      (dx, nodeD w.params tx1 tx2 tx3 tx4 tx5 tx6 (.ref r) .none xk xv xc),
      (r, instObj 53 dr),
      (dr, nodeD w.params tr1 tr2 tr3 tr4 tr5 tr6 rp rn rk rv rc)] : List (Addr × Obj)), q9.2.cls ≠ .type "tuple" := by simp only [List.forall_mem_cons]; simp
  have hx9 := lift_keyed hx kk' N hc9
  have hkx9 := lift_key hkx kk' N hc9
  clear hc9
  k_steps
  unfold held
  (rename Fr _ _ _ _ => F8); (rename News _ _ _ _ => N8)
  k_dflt (refine ra_last1 B' F8 X' T' rfl (by first | omega | (dsimp only [ktrTop, Around.deeper]; omega) | (show _ + 1 + _ < _; omega)) (by first | omega | (dsimp only [ktrTop, Around.deeper]; omega) | (show _ + 1 + _ < _; omega)) hn0 hhr N8 (fun h8 tk8 F9 N9 K9 => ?_))
  try clear F8 N8
  try dsimp only
  k_steps
  all_goals (
    try dsimp only
    try (k_unfold; try dsimp only)
    exact ⟨_, _, _, by assumption, by assumption, fun kF kN kk _ => ret _ _ kF kN kk⟩)

set_option maxHeartbeats 4000000 in
theorem get_last {dp un : Nat} {gd : Option (List Code)} {cn : Str} {cs : Scope} {a : Addr} {ccd : Value} {cl : List (Str × Addr)} {outer : List Env} {A₀ : Around} {base h₀ : Heap} {L : Addr} {m : Str → Option Value} {s : Shared} {Q E : Value → Shared → Prop}
    {tc1 tc2 tc3 tc4 tc5 : Tok} {tx1 tx2 tx3 tx4 tx5 tx6 tr1 tr2 tr3 tr4 tr5 tr6 tz1 tz2 tz3 tz4 tz5 tz6 : Tok} {c dc d : Addr} {mx af : Value} {xs : Ents} {n : Nat} {x dx : Addr} {xk xv xc : Value} {r dr : Addr} {rp rn rk rv rc : Value} {z dz : Addr} {zp zn zk zv zc : Value} {kx : Key} {key dflt : Value}
    (B : Below A₀ base outer h₀) (F : Fr h₀ L s.heap m) (X : (hd.heap_39 w.params).In h₀) (T : Top p loose mean mg mb h₀) (hk : cs.kind = .function) (hd : dp + 30 < recursionLimit) (hu : un + 300 < cLine) (hn : [c, dc, d, x, dx, r, dr, z, dz].Nodup)
    (hx : Keyed prog w s.heap xs) (hkx : IsKey prog w s.heap kx key) (hlx : look xs kx = some (.ref x)) (hhv : handedIn xv = true)  (hhr : handedIn rk = true) (hd0 : (d == sysModules) = false)
    (N : News h₀ L s.heap [(c, instObj 189 dc),
      (dc, cacheD w.params tc1 tc2 tc3 tc4 tc5 (.ref d) (.ref r) (.ref x) mx af),
      (d, dictK w xs n),
      (x, instObj 53 dx),
      (dx, nodeD w.params tx1 tx2 tx3 tx4 tx5 tx6 (.ref z) .none xk xv xc),
      (r, instObj 53 dr),
      (dr, nodeD w.params tr1 tr2 tr3 tr4 tr5 tr6 rp rn rk rv rc),
      (z, instObj 53 dz),
      (dz, nodeD w.params tz1 tz2 tz3 tz4 tz5 tz6 zp zn zk zv zc)])
    (ret : ∀ h' tk' , Fr h₀ L h' m → News h₀ L h' [(c, instObj 189 dc),
      (dc, cacheD w.params tc1 tc2 tc3 tc4 tc5 (.ref d) (.ref x) (.ref z) mx af),
      (d, dictK w xs n),
      (x, instObj 53 dx),
      (dx, nodeD w.params tx1 tx2 tx3 tx4 tx5 tx6 .none rk xk xv xc),
      (r, instObj 53 dr),
      (dr, nodeD w.params tr1 tr2 tr3 tr4 tr5 tr6 (.ref x) rn rk rv rc),
      (z, instObj 53 dz),
      (dz, nodeD w.params tz1 tz2 tz3 tz4 tz5 tz6 zp .none zk zv zc)] → Keep s.heap h' [c, dc, d, x, dx, r, dr, z, dz] → Q xv { s with heap := h', toks := tk' }) :
    wpAny (model prog w) (ktrTop dp un gd cn cs L a ccd cl outer) (call (.ref 116) [.ref c, key, dflt]) Q E s := by
  have hn0 := hn
  simp only [List.nodup_cons, List.mem_cons, List.not_mem_nil, or_false, not_or, List.nodup_nil, not_false_eq_true, and_true] at hn
  obtain ⟨⟨n_0_1, n_0_2, n_0_3, n_0_4, n_0_5, n_0_6, n_0_7, n_0_8⟩, ⟨n_1_2, n_1_3, n_1_4, n_1_5, n_1_6, n_1_7, n_1_8⟩, ⟨n_2_3, n_2_4, n_2_5, n_2_6, n_2_7, n_2_8⟩, ⟨n_3_4, n_3_5, n_3_6, n_3_7, n_3_8⟩, ⟨n_4_5, n_4_6, n_4_7, n_4_8⟩, ⟨n_5_6, n_5_7, n_5_8⟩, ⟨n_6_7, n_6_8⟩, n_7_8⟩ := hn
  refine wpAny_call ?_
  k_dflt ktr_enter
  rename_i g' L' h' F' N' B' X' T' kk'
  have hc9 : ∀ q9 ∈ ([(c, instObj 189 dc),
      (dc, cacheD w.params tc1 tc2 tc3 tc4 tc5 (.ref d) (.ref r) (.ref x) mx af),
      (d, dictK w xs n),
      (x, instObj 53 dx),
      (dx, nodeD w.params tx1 tx2 tx3 tx4 tx5 tx6 (.ref z) .none xk xv xc),
      (r, instObj 53 dr),
      (dr, nodeD w.params tr1 tr2 tr3 tr4 tr5 tr6 rp rn rk rv rc),
      (z, instObj 53 dz),
      (dz, nodeD w.params tz1 tz2 tz3 tz4 tz5 tz6 zp zn zk zv zc)] : List (Addr × Obj)), q9.2.cls ≠ .type "tuple" := by simp only [List.forall_mem_cons]; simp
  have hx9 := lift_keyed hx kk' N hc9
  have hkx9 := lift_key hkx kk' N hc9
  clear hc9
  k_steps
  unfold held
  (rename Fr _ _ _ _ => F8); (rename News _ _ _ _ => N8)
  k_dflt (refine ra_last B' F8 X' T' rfl (by first | omega | (dsimp only [ktrTop, Around.deeper]; omega) | (show _ + 1 + _ < _; omega)) (by first | omega | (dsimp only [ktrTop, Around.deeper]; omega) | (show _ + 1 + _ < _; omega)) hn0 hhr N8 (fun h8 tk8 F9 N9 K9 => ?_))
  try clear F8 N8
  try dsimp only
  k_steps
  all_goals (
    try dsimp only
    try (k_unfold; try dsimp only)
    exact ⟨_, _, _, by assumption, by assumption, fun kF kN kk _ => ret _ _ kF kN kk⟩)

set_option maxHeartbeats 4000000 in
theorem get_mid1 {dp un : Nat} {gd : Option (List Code)} {cn : Str} {cs : Scope} {a : Addr} {ccd : Value} {cl : List (Str × Addr)} {outer : List Env} {A₀ : Around} {base h₀ : Heap} {L : Addr} {m : Str → Option Value} {s : Shared} {Q E : Value → Shared → Prop}
    {tc1 tc2 tc3 tc4 tc5 : Tok} {tx1 tx2 tx3 tx4 tx5 tx6 tr1 tr2 tr3 tr4 tr5 tr6 ty1 ty2 ty3 ty4 ty5 ty6 : Tok} {c dc d : Addr} {mx af : Value} {xs : Ents} {n : Nat} {x dx : Addr} {xk xv xc : Value} {r dr : Addr} {rp rn rk rv rc : Value} {y dy : Addr} {yp yn yk yv yc : Value} {ky : Key} {l dl : Addr} {kx : Key} {key dflt : Value}
    (B : Below A₀ base outer h₀) (F : Fr h₀ L s.heap m) (X : (hd.heap_39 w.params).In h₀) (T : Top p loose mean mg mb h₀) (hk : cs.kind = .function) (hd : dp + 30 < recursionLimit) (hu : un + 300 < cLine) (hn : [c, dc, d, x, dx, r, dr, y, dy, l].Nodup)
    (hkx : IsKey prog w s.heap kx key) (hlx : look xs kx = some (.ref x)) (hhv : handedIn xv = true) (hx : Keyed prog w s.heap xs) (hy : IsKey prog w s.heap ky yk) (hly : look xs ky = some (.ref y)) (hlo : s.heap.get? l = some (instObj 53 dl)) (hhr : handedIn rk = true) (hhy : handedIn yk = true) (hd0 : (d == sysModules) = false)
    (N : News h₀ L s.heap [(c, instObj 189 dc),
      (dc, cacheD w.params tc1 tc2 tc3 tc4 tc5 (.ref d) (.ref r) (.ref l) mx af),
      (d, dictK w xs n),
      (x, instObj 53 dx),
      (dx, nodeD w.params tx1 tx2 tx3 tx4 tx5 tx6 (.ref r) yk xk xv xc),
      (r, instObj 53 dr),
      (dr, nodeD w.params tr1 tr2 tr3 tr4 tr5 tr6 rp rn rk rv rc),
      (y, instObj 53 dy),
      (dy, nodeD w.params ty1 ty2 ty3 ty4 ty5 ty6 yp yn yk yv yc)])
    (ret : ∀ h' tk' , Fr h₀ L h' m → News h₀ L h' [(c, instObj 189 dc),
      (dc, cacheD w.params tc1 tc2 tc3 tc4 tc5 (.ref d) (.ref x) (.ref l) mx af),
      (d, dictK w xs n),
      (x, instObj 53 dx),
      (dx, nodeD w.params tx1 tx2 tx3 tx4 tx5 tx6 .none rk xk xv xc),
      (r, instObj 53 dr),
      (dr, nodeD w.params tr1 tr2 tr3 tr4 tr5 tr6 (.ref x) yk rk rv rc),
      (y, instObj 53 dy),
      (dy, nodeD w.params ty1 ty2 ty3 ty4 ty5 ty6 (.ref r) yn yk yv yc)] → Keep s.heap h' [c, dc, d, x, dx, r, dr, y, dy] → Q xv { s with heap := h', toks := tk' }) :
    wpAny (model prog w) (ktrTop dp un gd cn cs L a ccd cl outer) (call (.ref 116) [.ref c, key, dflt]) Q E s := by
  have hn0 := hn
  simp only [List.nodup_cons, List.mem_cons, List.not_mem_nil, or_false, not_or, List.nodup_nil, not_false_eq_true, and_true] at hn
  obtain ⟨⟨n_0_1, n_0_2, n_0_3, n_0_4, n_0_5, n_0_6, n_0_7, n_0_8, n_0_9⟩, ⟨n_1_2, n_1_3, n_1_4, n_1_5, n_1_6, n_1_7, n_1_8, n_1_9⟩, ⟨n_2_3, n_2_4, n_2_5, n_2_6, n_2_7, n_2_8, n_2_9⟩, ⟨n_3_4, n_3_5, n_3_6, n_3_7, n_3_8, n_3_9⟩, ⟨n_4_5, n_4_6, n_4_7, n_4_8, n_4_9⟩, ⟨n_5_6, n_5_7, n_5_8, n_5_9⟩, ⟨n_6_7, n_6_8, n_6_9⟩, ⟨n_7_8, n_7_9⟩, n_8_9⟩ := hn
  refine wpAny_call ?_
  k_dflt ktr_enter
  rename_i g' L' h' F' N' B' X' T' kk'
  have hc9 : ∀ q9 ∈ ([(c, instObj 189 dc),
      (dc, cacheD w.params tc1 tc2 tc3 tc4 tc5 (.ref d) (.ref r) (.ref l) mx af),
      (d, dictK w xs n),
      (x, instObj 53 dx),
      (dx, nodeD w.params tx1 tx2 tx3 tx4 tx5 tx6 (.ref r) yk xk xv xc),
      (r, instObj 53 dr),
      (dr, nodeD w.params tr1 tr2 tr3 tr4 tr5 tr6 rp rn rk rv rc),
      (y, instObj 53 dy),
      (dy, nodeD w.params ty1 ty2 ty3 ty4 ty5 ty6 yp yn yk yv yc)] : List (Addr × Obj)), q9.2.cls ≠ .type "tuple" := by simp only [List.forall_mem_cons]; simp
  have hkx9 := lift_key hkx kk' N hc9
  have hx9 := lift_keyed hx kk' N hc9
  have hy9 := lift_key hy kk' N hc9
  have hlo9 := kk' _ _ hlo (by simp only [List.map_cons, List.map_nil, List.mem_cons, List.not_mem_nil, or_false, not_or]; (repeat' constructor) <;> first | assumption | exact Ne.symm (by assumption))
  clear hc9
  k_steps
  unfold held
  (rename Fr _ _ _ _ => F8); (rename News _ _ _ _ => N8)
  k_dflt (refine ra_mid1 B' F8 X' T' rfl (by first | omega | (dsimp only [ktrTop, Around.deeper]; omega) | (show _ + 1 + _ < _; omega)) (by first | omega | (dsimp only [ktrTop, Around.deeper]; omega) | (show _ + 1 + _ < _; omega)) hn0 (hx9.keeps F8.keep) (hy9.keeps F8.keep) hly (F8.keep _ _ hlo9) hhr hhy N8 (fun h8 tk8 F9 N9 K9 => ?_))
  try clear F8 N8
  try dsimp only
  k_steps
  all_goals (
    try dsimp only
    try (k_unfold; try dsimp only)
    exact ⟨_, _, _, by assumption, by assumption, fun kF kN kk _ => ret _ _ kF kN kk⟩)

set_option maxHeartbeats 4000000 in
theorem get_mid {dp un : Nat} {gd : Option (List Code)} {cn : Str} {cs : Scope} {a : Addr} {ccd : Value} {cl : List (Str × Addr)} {outer : List Env} {A₀ : Around} {base h₀ : Heap} {L : Addr} {m : Str → Option Value} {s : Shared} {Q E : Value → Shared → Prop}
    {tc1 tc2 tc3 tc4 tc5 : Tok} {tx1 tx2 tx3 tx4 tx5 tx6 tr1 tr2 tr3 tr4 tr5 tr6 ty1 ty2 ty3 ty4 ty5 ty6 tz1 tz2 tz3 tz4 tz5 tz6 : Tok} {c dc d : Addr} {mx af : Value} {xs : Ents} {n : Nat} {x dx : Addr} {xk xv xc : Value} {r dr : Addr} {rp rn rk rv rc : Value} {y dy : Addr} {yp yn yk yv yc : Value} {z dz : Addr} {zp zn zk zv zc : Value} {ky : Key} {l dl : Addr} {kx : Key} {key dflt : Value}
    (B : Below A₀ base outer h₀) (F : Fr h₀ L s.heap m) (X : (hd.heap_39 w.params).In h₀) (T : Top p loose mean mg mb h₀) (hk : cs.kind = .function) (hd : dp + 30 < recursionLimit) (hu : un + 300 < cLine) (hn : [c, dc, d, x, dx, r, dr, y, dy, z, dz, l].Nodup)
    (hkx : IsKey prog w s.heap kx key) (hlx : look xs kx = some (.ref x)) (hhv : handedIn xv = true) (hx : Keyed prog w s.heap xs) (hy : IsKey prog w s.heap ky yk) (hly : look xs ky = some (.ref y)) (hlo : s.heap.get? l = some (instObj 53 dl)) (hhr : handedIn rk = true) (hhy : handedIn yk = true) (hd0 : (d == sysModules) = false)
    (N : News h₀ L s.heap [(c, instObj 189 dc),
      (dc, cacheD w.params tc1 tc2 tc3 tc4 tc5 (.ref d) (.ref r) (.ref l) mx af),
      (d, dictK w xs n),
      (x, instObj 53 dx),
      (dx, nodeD w.params tx1 tx2 tx3 tx4 tx5 tx6 (.ref z) yk xk xv xc),
      (r, instObj 53 dr),
      (dr, nodeD w.params tr1 tr2 tr3 tr4 tr5 tr6 rp rn rk rv rc),
      (y, instObj 53 dy),
      (dy, nodeD w.params ty1 ty2 ty3 ty4 ty5 ty6 yp yn yk yv yc),
      (z, instObj 53 dz),
      (dz, nodeD w.params tz1 tz2 tz3 tz4 tz5 tz6 zp zn zk zv zc)])
    (ret : ∀ h' tk' , Fr h₀ L h' m → News h₀ L h' [(c, instObj 189 dc),
      (dc, cacheD w.params tc1 tc2 tc3 tc4 tc5 (.ref d) (.ref x) (.ref l) mx af),
      (d, dictK w xs n),
      (x, instObj 53 dx),
      (dx, nodeD w.params tx1 tx2 tx3 tx4 tx5 tx6 .none rk xk xv xc),
      (r, instObj 53 dr),
      (dr, nodeD w.params tr1 tr2 tr3 tr4 tr5 tr6 (.ref x) rn rk rv rc),
      (y, instObj 53 dy),
      (dy, nodeD w.params ty1 ty2 ty3 ty4 ty5 ty6 (.ref z) yn yk yv yc),
      (z, instObj 53 dz),
      (dz, nodeD w.params tz1 tz2 tz3 tz4 tz5 tz6 zp yk zk zv zc)] → Keep s.heap h' [c, dc, d, x, dx, r, dr, y, dy, z, dz] → Q xv { s with heap := h', toks := tk' }) :
    wpAny (model prog w) (ktrTop dp un gd cn cs L a ccd cl outer) (call (.ref 116) [.ref c, key, dflt]) Q E s := by
  have hn0 := hn
  simp only [List.nodup_cons, List.mem_cons, List.not_mem_nil, or_false, not_or, List.nodup_nil, not_false_eq_true, and_true] at hn
  obtain ⟨⟨n_0_1, n_0_2, n_0_3, n_0_4, n_0_5, n_0_6, n_0_7, n_0_8, n_0_9, n_0_10, n_0_11⟩, ⟨n_1_2, n_1_3, n_1_4, n_1_5, n_1_6, n_1_7, n_1_8, n_1_9, n_1_10, n_1_11⟩, ⟨n_2_3, n_2_4, n_2_5, n_2_6, n_2_7, n_2_8, n_2_9, n_2_10, n_2_11⟩, ⟨n_3_4, n_3_5, n_3_6, n_3_7, n_3_8, n_3_9, n_3_10, n_3_11⟩, ⟨n_4_5, n_4_6, n_4_7, n_4_8, n_4_9, n_4_10, n_4_11⟩, ⟨n_5_6, n_5_7, n_5_8, n_5_9, n_5_10, n_5_11⟩, ⟨n_6_7, n_6_8, n_6_9, n_6_10, n_6_11⟩, ⟨n_7_8, n_7_9, n_7_10, n_7_11⟩, ⟨n_8_9, n_8_10, n_8_11⟩, ⟨n_9_10, n_9_11⟩, n_10_11⟩ := hn
  refine wpAny_call ?_
  k_dflt ktr_enter
  rename_i g' L' h' F' N' B' X' T' kk'
  have hc9 : ∀ q9 ∈ ([(c, instObj 189 dc),
      (dc, cacheD w.params tc1 tc2 tc3 tc4 tc5 (.ref d) (.ref r) (.ref l) mx af),
      (d, dictK w xs n),
      (x, instObj 53 dx),
      (dx, nodeD w.params tx1 tx2 tx3 tx4 tx5 tx6 (.ref z) yk xk xv xc),
      (r, instObj 53 dr),
      (dr, nodeD w.params tr1 tr2 tr3 tr4 tr5 tr6 rp rn rk rv rc),
      (y, instObj 53 dy),
      (dy, nodeD w.params ty1 ty2 ty3 ty4 ty5 ty6 yp yn yk yv yc),
      (z, instObj 53 dz),
      (dz, nodeD w.params tz1 tz2 tz3 tz4 tz5 tz6 zp zn zk zv zc)] : List (Addr × Obj)), q9.2.cls ≠ .type "tuple" := by simp only [List.forall_mem_cons]; simp
  have hkx9 := lift_key hkx kk' N hc9
  have hx9 := lift_keyed hx kk' N hc9
  have hy9 := lift_key hy kk' N hc9
  have hlo9 := kk' _ _ hlo (by simp only [List.map_cons, List.map_nil, List.mem_cons, List.not_mem_nil, or_false, not_or]; (repeat' constructor) <;> first | assumption | exact Ne.symm (by assumption))
  clear hc9
  k_steps
  unfold held
  (rename Fr _ _ _ _ => F8); (rename News _ _ _ _ => N8)
  k_dflt (refine ra_mid B' F8 X' T' rfl (by first | omega | (dsimp only [ktrTop, Around.deeper]; omega) | (show _ + 1 + _ < _; omega)) (by first | omega | (dsimp only [ktrTop, Around.deeper]; omega) | (show _ + 1 + _ < _; omega)) hn0 (hx9.keeps F8.keep) (hy9.keeps F8.keep) hly (F8.keep _ _ hlo9) hhr hhy N8 (fun h8 tk8 F9 N9 K9 => ?_))
  try clear F8 N8
  try dsimp only
  k_steps
  all_goals (
    try dsimp only
    try (k_unfold; try dsimp only)
    exact ⟨_, _, _, by assumption, by assumption, fun kF kN kk _ => ret _ _ kF kN kk⟩)

set_option maxHeartbeats 4000000 in
theorem get_mid1y {dp un : Nat} {gd : Option (List Code)} {cn : Str} {cs : Scope} {a : Addr} {ccd : Value} {cl : List (Str × Addr)} {outer : List Env} {A₀ : Around} {base h₀ : Heap} {L : Addr} {m : Str → Option Value} {s : Shared} {Q E : Value → Shared → Prop}
    {tc1 tc2 tc3 tc4 tc5 : Tok} {tx1 tx2 tx3 tx4 tx5 tx6 tr1 tr2 tr3 tr4 tr5 tr6 ty1 ty2 ty3 ty4 ty5 ty6 : Tok} {c dc d : Addr} {mx af : Value} {xs : Ents} {n : Nat} {x dx : Addr} {xk xv xc : Value} {r dr : Addr} {rp rn rk rv rc : Value} {y dy : Addr} {yp yn yk yv yc : Value} {ky : Key} {kx : Key} {key dflt : Value}
    (B : Below A₀ base outer h₀) (F : Fr h₀ L s.heap m) (X : (hd.heap_39 w.params).In h₀) (T : Top p loose mean mg mb h₀) (hk : cs.kind = .function) (hd : dp + 30 < recursionLimit) (hu : un + 300 < cLine) (hn : [c, dc, d, x, dx, r, dr, y, dy].Nodup)
    (hkx : IsKey prog w s.heap kx key) (hlx : look xs kx = some (.ref x)) (hhv : handedIn xv = true) (hx : Keyed prog w s.heap xs) (hy : IsKey prog w s.heap ky yk) (hly : look xs ky = some (.ref y))  (hhr : handedIn rk = true) (hhy : handedIn yk = true) (hd0 : (d == sysModules) = false)
    (N : News h₀ L s.heap [(c, instObj 189 dc),
      (dc, cacheD w.params tc1 tc2 tc3 tc4 tc5 (.ref d) (.ref r) (.ref y) mx af),
      (d, dictK w xs n),
      (x, instObj 53 dx),
      (dx, nodeD w.params tx1 tx2 tx3 tx4 tx5 tx6 (.ref r) yk xk xv xc),
      (r, instObj 53 dr),
      (dr, nodeD w.params tr1 tr2 tr3 tr4 tr5 tr6 rp rn rk rv rc),
      (y, instObj 53 dy),
      (dy, nodeD w.params ty1 ty2 ty3 ty4 ty5 ty6 yp yn yk yv yc)])
    (ret : ∀ h' tk' , Fr h₀ L h' m → News h₀ L h' [(c, instObj 189 dc),
      (dc, cacheD w.params tc1 tc2 tc3 tc4 tc5 (.ref d) (.ref x) (.ref y) mx af),
      (d, dictK w xs n),
      (x, instObj 53 dx),
      (dx, nodeD w.params tx1 tx2 tx3 tx4 tx5 tx6 .none rk xk xv xc),
      (r, instObj 53 dr),
      (dr, nodeD w.params tr1 tr2 tr3 tr4 tr5 tr6 (.ref x) yk rk rv rc),
      (y, instObj 53 dy),
      (dy, nodeD w.params ty1 ty2 ty3 ty4 ty5 ty6 (.ref r) yn yk yv yc)] → Keep s.heap h' [c, dc, d, x, dx, r, dr, y, dy] → Q xv { s with heap := h', toks := tk' }) :
    wpAny (model prog w) (ktrTop dp un gd cn cs L a ccd cl outer) (call (.ref 116) [.ref c, key, dflt]) Q E s := by
  have hn0 := hn
  simp only [List.nodup_cons, List.mem_cons, List.not_mem_nil, or_false, not_or, List.nodup_nil, not_false_eq_true, and_true] at hn
  obtain ⟨⟨n_0_1, n_0_2, n_0_3, n_0_4, n_0_5, n_0_6, n_0_7, n_0_8⟩, ⟨n_1_2, n_1_3, n_1_4, n_1_5, n_1_6, n_1_7, n_1_8⟩, ⟨n_2_3, n_2_4, n_2_5, n_2_6, n_2_7, n_2_8⟩, ⟨n_3_4, n_3_5, n_3_6, n_3_7, n_3_8⟩, ⟨n_4_5, n_4_6, n_4_7, n_4_8⟩, ⟨n_5_6, n_5_7, n_5_8⟩, ⟨n_6_7, n_6_8⟩, n_7_8⟩ := hn
  refine wpAny_call ?_
  k_dflt ktr_enter
  rename_i g' L' h' F' N' B' X' T' kk'
  have hc9 : ∀ q9 ∈ ([(c, instObj 189 dc),
      (dc, cacheD w.params tc1 tc2 tc3 tc4 tc5 (.ref d) (.ref r) (.ref y) mx af),
      (d, dictK w xs n),
      (x, instObj 53 dx),
      (dx, nodeD w.params tx1 tx2 tx3 tx4 tx5 tx6 (.ref r) yk xk xv xc),
      (r, instObj 53 dr),
      (dr, nodeD w.params tr1 tr2 tr3 tr4 tr5 tr6 rp rn rk rv rc),
      (y, instObj 53 dy),
      (dy, nodeD w.params ty1 ty2 ty3 ty4 ty5 ty6 yp yn yk yv yc)] : List (Addr × Obj)), q9.2.cls ≠ .type "tuple" := by simp only [List.forall_mem_cons]; simp
  have hkx9 := lift_key hkx kk' N hc9
  have hx9 := lift_keyed hx kk' N hc9
  have hy9 := lift_key hy kk' N hc9
  clear hc9
  k_steps
  unfold held
  (rename Fr _ _ _ _ => F8); (rename News _ _ _ _ => N8)
  k_dflt (refine ra_mid1y B' F8 X' T' rfl (by first | omega | (dsimp only [ktrTop, Around.deeper]; omega) | (show _ + 1 + _ < _; omega)) (by first | omega | (dsimp only [ktrTop, Around.deeper]; omega) | (show _ + 1 + _ < _; omega)) hn0 (hx9.keeps F8.keep) (hy9.keeps F8.keep) hly hhr hhy N8 (fun h8 tk8 F9 N9 K9 => ?_))
  try clear F8 N8
  try dsimp only
  k_steps
  all_goals (
    try dsimp only
    try (k_unfold; try dsimp only)
    exact ⟨_, _, _, by assumption, by assumption, fun kF kN kk _ => ret _ _ kF kN kk⟩)

set_option maxHeartbeats 4000000 in
theorem get_midy {dp un : Nat} {gd : Option (List Code)} {cn : Str} {cs : Scope} {a : Addr} {ccd : Value} {cl : List (Str × Addr)} {outer : List Env} {A₀ : Around} {base h₀ : Heap} {L : Addr} {m : Str → Option Value} {s : Shared} {Q E : Value → Shared → Prop}
    {tc1 tc2 tc3 tc4 tc5 : Tok} {tx1 tx2 tx3 tx4 tx5 tx6 tr1 tr2 tr3 tr4 tr5 tr6 ty1 ty2 ty3 ty4 ty5 ty6 tz1 tz2 tz3 tz4 tz5 tz6 : Tok} {c dc d : Addr} {mx af : Value} {xs : Ents} {n : Nat} {x dx : Addr} {xk xv xc : Value} {r dr : Addr} {rp rn rk rv rc : Value} {y dy : Addr} {yp yn yk yv yc : Value} {z dz : Addr} {zp zn zk zv zc : Value} {ky : Key} {kx : Key} {key dflt : Value}
    (B : Below A₀ base outer h₀) (F : Fr h₀ L s.heap m) (X : (hd.heap_39 w.params).In h₀) (T : Top p loose mean mg mb h₀) (hk : cs.kind = .function) (hd : dp + 30 < recursionLimit) (hu : un + 300 < cLine) (hn : [c, dc, d, x, dx, r, dr, y, dy, z, dz].Nodup)
    (hkx : IsKey prog w s.heap kx key) (hlx : look xs kx = some (.ref x)) (hhv : handedIn xv = true) (hx : Keyed prog w s.heap xs) (hy : IsKey prog w s.heap ky yk) (hly : look xs ky = some (.ref y))  (hhr : handedIn rk = true) (hhy : handedIn yk = true) (hd0 : (d == sysModules) = false)
    (N : News h₀ L s.heap [(c, instObj 189 dc),
      (dc, cacheD w.params tc1 tc2 tc3 tc4 tc5 (.ref d) (.ref r) (.ref y) mx af),
      (d, dictK w xs n),
      (x, instObj 53 dx),
      (dx, nodeD w.params tx1 tx2 tx3 tx4 tx5 tx6 (.ref z) yk xk xv xc),
      (r, instObj 53 dr),
      (dr, nodeD w.params tr1 tr2 tr3 tr4 tr5 tr6 rp rn rk rv rc),
      (y, instObj 53 dy),
      (dy, nodeD w.params ty1 ty2 ty3 ty4 ty5 ty6 yp yn yk yv yc),
      (z, instObj 53 dz),
      (dz, nodeD w.params tz1 tz2 tz3 tz4 tz5 tz6 zp zn zk zv zc)])
    (ret : ∀ h' tk' , Fr h₀ L h' m → News h₀ L h' [(c, instObj 189 dc),
      (dc, cacheD w.params tc1 tc2 tc3 tc4 tc5 (.ref d) (.ref x) (.ref y) mx af),
      (d, dictK w xs n),
      (x, instObj 53 dx),
      (dx, nodeD w.params tx1 tx2 tx3 tx4 tx5 tx6 .none rk xk xv xc),
      (r, instObj 53 dr),
      (dr, nodeD w.params tr1 tr2 tr3 tr4 tr5 tr6 (.ref x) rn rk rv rc),
      (y, instObj 53 dy),
      (dy, nodeD w.params ty1 ty2 ty3 ty4 ty5 ty6 (.ref z) yn yk yv yc),
      (z, instObj 53 dz),
      (dz, nodeD w.params tz1 tz2 tz3 tz4 tz5 tz6 zp yk zk zv zc)] → Keep s.heap h' [c, dc, d, x, dx, r, dr, y, dy, z, dz] → Q xv { s with heap := h', toks := tk' }) :
    wpAny (model prog w) (ktrTop dp un gd cn cs L a ccd cl outer) (call (.ref 116) [.ref c, key, dflt]) Q E s := by
  have hn0 := hn
  simp only [List.nodup_cons, List.mem_cons, List.not_mem_nil, or_false, not_or, List.nodup_nil, not_false_eq_true, and_true] at hn
  obtain ⟨⟨n_0_1, n_0_2, n_0_3, n_0_4, n_0_5, n_0_6, n_0_7, n_0_8, n_0_9, n_0_10⟩, ⟨n_1_2, n_1_3, n_1_4, n_1_5, n_1_6, n_1_7, n_1_8, n_1_9, n_1_10⟩, ⟨n_2_3, n_2_4, n_2_5, n_2_6, n_2_7, n_2_8, n_2_9, n_2_10⟩, ⟨n_3_4, n_3_5, n_3_6, n_3_7, n_3_8, n_3_9, n_3_10⟩, ⟨n_4_5, n_4_6, n_4_7, n_4_8, n_4_9, n_4_10⟩, ⟨n_5_6, n_5_7, n_5_8, n_5_9, n_5_10⟩, ⟨n_6_7, n_6_8, n_6_9, n_6_10⟩, ⟨n_7_8, n_7_9, n_7_10⟩, ⟨n_8_9, n_8_10⟩, n_9_10⟩ := hn
  refine wpAny_call ?_
  k_dflt ktr_enter
  rename_i g' L' h' F' N' B' X' T' kk'
  have hc9 : ∀ q9 ∈ ([(c, instObj 189 dc),
      (dc, cacheD w.params tc1 tc2 tc3 tc4 tc5 (.ref d) (.ref r) (.ref y) mx af),
      (d, dictK w xs n),
      (x, instObj 53 dx),
      (dx, nodeD w.params tx1 tx2 tx3 tx4 tx5 tx6 (.ref z) yk xk xv xc),
      (r, instObj 53 dr),
      (dr, nodeD w.params tr1 tr2 tr3 tr4 tr5 tr6 rp rn rk rv rc),
      (y, instObj 53 dy),
      (dy, nodeD w.params ty1 ty2 ty3 ty4 ty5 ty6 yp yn yk yv yc),
      (z, instObj 53 dz),
      (dz, nodeD w.params tz1 tz2 tz3 tz4 tz5 tz6 zp zn zk zv zc)] : List (Addr × Obj)), q9.2.cls ≠ .type "tuple" := by simp only [List.forall_mem_cons]; simp
  have hkx9 := lift_key hkx kk' N hc9
  have hx9 := lift_keyed hx kk' N hc9
  have hy9 := lift_key hy kk' N hc9
  clear hc9
  k_steps
  unfold held
  (rename Fr _ _ _ _ => F8); (rename News _ _ _ _ => N8)
  k_dflt (refine ra_midy B' F8 X' T' rfl (by first | omega | (dsimp only [ktrTop, Around.deeper]; omega) | (show _ + 1 + _ < _; omega)) (by first | omega | (dsimp only [ktrTop, Around.deeper]; omega) | (show _ + 1 + _ < _; omega)) hn0 (hx9.keeps F8.keep) (hy9.keeps F8.keep) hly hhr hhy N8 (fun h8 tk8 F9 N9 K9 => ?_))
  try clear F8 N8
  try dsimp only
  k_steps
  all_goals (
    try dsimp only
    try (k_unfold; try dsimp only)
    exact ⟨_, _, _, by assumption, by assumption, fun kF kN kk _ => ret _ _ kF kN kk⟩)
end
end Mine
end
section
set_option maxRecDepth 100000
set_option linter.unusedVariables false
set_option linter.unusedSimpArgs false
namespace Mine
open PySem PySem.W PySem.Spec PySem.Calls PyProof.Rows

theorem firstK_nil {n : Value} : firstK n [] = n := rfl
theorem firstK_cons {n : Value} {r : Rec} {R : List Rec} : firstK n (r :: R) = r.kv := rfl
theorem adr_perm {A B : List Rec} (h : A.Perm B) : (adr A).Perm (adr B) := by
  induction h with
  | nil => exact .refl _
  | cons x _ ih => exact (ih.cons _).cons _
  | swap x y l => exact List.perm_append_comm (l₁ := [y.x, y.dx]) (l₂ := [x.x, x.dx]) |>.append_right (adr l)
  | trans _ _ a b => exact a.trans b
section
variable {prog : Program} {w : World} {h h' h₀ : Heap} {ow : Addr → Nat} {k : Nat} {L : Addr} {M : Int} {gk c dc d : Addr} {recs recs' : List Rec}
theorem CacheAt.owns (C : CacheAt prog w h ow k h₀ L M gk c dc d recs) {T : List Addr} (hT : ∀ a ∈ T, a ∈ c :: dc :: d :: adr recs) : ∀ a ∈ T, ow a = k := fun a ha => (C.own a (hT a ha)).1
theorem CacheAt.reform (C : CacheAt prog w h ow k h₀ L M gk c dc d recs) (hk98 : k ≠ 98) {T : List Addr} (kk : Keep h h' T) (hT : ∀ a ∈ T, a ∈ c :: dc :: d :: adr recs) (hp : recs'.Perm recs)
    (i : h'.get? c = some (instObj 189 dc)) (D : ∃ t1 t2 t3 t4 t5 tm ta, h'.get? dc = some (cacheD w.params t1 t2 t3 t4 t5 (.ref d) (firstRef recs') (lastRef .none recs') (.int M tm) (.int M ta)))
    (e : h'.get? d = h.get? d) (sg : Seg w.params h' .none recs' .none) : CacheAt prog w h' ow k h₀ L M gk c dc d recs' := by
  have kw : KeepW ow k h h' := .of kk (C.owns hT)
  have hpa : (c :: dc :: d :: adr recs').Perm (c :: dc :: d :: adr recs) := (((adr_perm hp).cons _).cons _).cons _
  obtain ⟨xs, n, e1, e2, e3, e4, e5⟩ := C.ents
  exact {
    inst := i
    dict := D
    ents := ⟨xs, n, e.trans e1, ⟨fun x hx => (IsKeyW.keep ⟨e2.is x hx, e3 x hx⟩ kw hk98).1, e2.nodup⟩, e3, e4.trans hp.length_eq.symm, fun r hr => e5 r (hp.subset hr)⟩
    seg := sg
    keys := fun r hr => (C.keys r (hp.subset hr)).keep kw hk98
    tell := fun r hr => by
      obtain ⟨qual, pm, ctv, c', cg, ck, lg, gs, t, o⟩ := C.tell r (hp.subset hr)
      exact ⟨qual, pm, ctv, c', cg, ck, lg, gs, t.keep fun a ha o' g => kw a o' g (by rw [o a ha]; exact Ne.symm hk98), o⟩
    own := fun a ha => C.own a (hpa.subset ha)
    nodup := hpa.nodup_iff.mpr C.nodup
    sysd := C.sysd
    nodupK := (hp.map _).nodup_iff.mpr C.nodupK
    small := hp.length_eq ▸ C.small }
theorem CacheAt.new {m : Str → Option Value} (C : CacheAt prog w h ow k h₀ L M gk c dc d recs) (F : Fr h₀ L h m) {a : Addr} {o : Obj} (ha : a ∈ c :: dc :: d :: adr recs) (hg : h.get? a = some o) :
    h.get? a = some o ∧ a ≠ L ∧ h₀.get? a = none := ⟨hg, (C.own a ha).2⟩
end
theorem news_cons {h₀ h : Heap} {L a : Addr} {o : Obj} {news : List (Addr × Obj)} (x : h.get? a = some o ∧ a ≠ L ∧ h₀.get? a = none) (N : News h₀ L h news) : News h₀ L h ((a, o) :: news) := List.forall_mem_cons.mpr ⟨x, N⟩
theorem news_nil {h₀ h : Heap} {L : Addr} : News h₀ L h [] := List.forall_mem_nil _
section
variable {prog : Program} {w : World} {p : Program} {loose : List Str} {mean : ExcName → Option Value} {mg mb : Str → Option Value}

set_option maxHeartbeats 1000000 in
theorem item_mru {dp un : Nat} {gd : Option (List Code)} {cn : Str} {cs : Scope} {a : Addr} {ccd : Value} {cl : List (Str × Addr)} {outer : List Env} {A₀ : Around} {base h₀ : Heap} {L : Addr} {m : Str → Option Value} {s : Shared} {Q E : Value → Shared → Prop}
    {ow : Addr → Nat} {k : Nat} {M : Int} {gk c dc d : Addr} {x : Rec} {key : Value} {R : List Rec}
    (B : Below A₀ base outer h₀) (F : Fr h₀ L s.heap m) (X : (hd.heap_39 w.params).In h₀) (T : Top p loose mean mg mb h₀) (hk : cs.kind = .function) (hd : dp + 20 < recursionLimit) (hu : un + 200 < cLine) (hk98 : k ≠ 98)
    (C : CacheAt prog w s.heap ow k h₀ L M gk c dc d (x :: R)) (hkx : IsKey prog w s.heap x.key key)
    (ret : ∀ h' tk', Fr h₀ L h' m → CacheAt prog w h' ow k h₀ L M gk c dc d (x :: R) → Keep s.heap h' (c :: dc :: d :: adr (x :: R)) → Q (.int x.i x.vt) { s with heap := h', toks := tk' }) :
    wpAny (model prog w) (ktrTop dp un gd cn cs L a ccd cl outer) (call (.ref 86) [.ref c, key]) Q E s := by
  have hnd := C.nodup
  have hsg := C.seg
  obtain ⟨tc1, tc2, tc3, tc4, tc5, tm, ta, hdc⟩ := C.dict
  obtain ⟨xs, n, hdd, hxs, hxo, hxl, hxk⟩ := C.ents
  simp only [adr, adr_append, List.cons_append, List.append_assoc, List.nil_append] at hnd
  simp only [Seg, seg_append, firstK_nil, firstK_cons, firstK_append, lastRef, lastRef_append, firstRef, List.cons_append, List.nil_append, and_true, true_and, and_assoc] at hsg hdc
  have hs : [c, dc, d, x.x, x.dx].Nodup := List.Sublist.nodup (.cons_cons _ (.cons_cons _ (.cons_cons _ (.cons_cons _ (.cons_cons _ (List.nil_sublist _)))))) hnd
  simp only [List.nodup_cons, List.mem_cons, List.not_mem_nil, or_false, not_or, List.nodup_nil, not_false_eq_true, and_true] at hs
  obtain ⟨⟨_, _, _, _⟩, ⟨_, _, _⟩, ⟨_, _⟩, _⟩ := hs
  obtain ⟨hx0, hsR⟩ := hsg
  obtain ⟨hx1, tx1, tx2, tx3, tx4, tx5, tx6, hx2⟩ := hx0
  have hx := And.intro hx1 hx2
  refine gi_mru B F X T hk hd hu (by simp only [List.nodup_cons, List.mem_cons, List.not_mem_nil, or_false, not_or, List.nodup_nil, not_false_eq_true, and_true]; (repeat' apply And.intro) <;> first | assumption | exact Ne.symm (by assumption)) hxs hkx (hxk x (by simp)) rfl (news_cons (C.new F (by first | (simp; done) | (simp [adr, adr_append]; done)) C.inst) (news_cons (C.new F (by first | (simp; done) | (simp [adr, adr_append]; done)) hdc) (news_cons (C.new F (by first | (simp; done) | (simp [adr, adr_append]; done)) hdd) (news_cons (C.new F (by first | (simp; done) | (simp [adr, adr_append]; done)) hx.1) (news_cons (C.new F (by first | (simp; done) | (simp [adr, adr_append]; done)) hx.2) news_nil))))) (fun h' tk' F' N' K' => ?_)
  have hT : ∀ b ∈ [c, dc, d, x.x, x.dx], b ∈ c :: dc :: d :: adr (x :: R) := by simp [adr, adr_append]
  refine ret _ _ F' (C.reform hk98 K' hT (.refl _) (N' _ (.head _)).1 (by simp only [firstRef, lastRef, lastRef_append, List.cons_append, List.nil_append]; exact ⟨_, _, _, _, _, _, _, (N' _ (.tail _ (.head _))).1⟩) ((N' _ (.tail _ (.tail _ (.head _)))).1.trans hdd.symm) ?_) (K'.weaken hT)
  have hoR : ∀ b ∈ adr R, b ∉ [c, dc, d, x.x, x.dx] := fun b hb hT9 => off_of_nodup (ads := [c, dc, d, x.x, x.dx]) (by simpa only [List.cons_append, List.append_assoc, List.nil_append] using hnd) b hb ((by simp : ∀ b ∈ [c, dc, d, x.x, x.dx], b ∈ [c, dc, d, x.x, x.dx]) b hT9)
  simp only [Seg]
  exact ⟨⟨(N' _ (.tail _ (.tail _ (.tail _ (.head _))))).1, _, _, _, _, _, _, (N' _ (.tail _ (.tail _ (.tail _ (.tail _ (.head _)))))).1⟩, hsR.keep (fun b hb o e => K' b o e (hoR b hb))⟩

set_option maxHeartbeats 1000000 in
theorem item_last1 {dp un : Nat} {gd : Option (List Code)} {cn : Str} {cs : Scope} {a : Addr} {ccd : Value} {cl : List (Str × Addr)} {outer : List Env} {A₀ : Around} {base h₀ : Heap} {L : Addr} {m : Str → Option Value} {s : Shared} {Q E : Value → Shared → Prop}
    {ow : Addr → Nat} {k : Nat} {M : Int} {gk c dc d : Addr} {x : Rec} {key : Value} {r : Rec}
    (B : Below A₀ base outer h₀) (F : Fr h₀ L s.heap m) (X : (hd.heap_39 w.params).In h₀) (T : Top p loose mean mg mb h₀) (hk : cs.kind = .function) (hd : dp + 20 < recursionLimit) (hu : un + 200 < cLine) (hk98 : k ≠ 98)
    (C : CacheAt prog w s.heap ow k h₀ L M gk c dc d (r :: [x])) (hkx : IsKey prog w s.heap x.key key)
    (ret : ∀ h' tk', Fr h₀ L h' m → CacheAt prog w h' ow k h₀ L M gk c dc d (x :: [r]) → Keep s.heap h' (c :: dc :: d :: adr (r :: [x])) → Q (.int x.i x.vt) { s with heap := h', toks := tk' }) :
    wpAny (model prog w) (ktrTop dp un gd cn cs L a ccd cl outer) (call (.ref 86) [.ref c, key]) Q E s := by
  have hnd := C.nodup
  have hsg := C.seg
  obtain ⟨tc1, tc2, tc3, tc4, tc5, tm, ta, hdc⟩ := C.dict
  obtain ⟨xs, n, hdd, hxs, hxo, hxl, hxk⟩ := C.ents
  simp only [adr, adr_append, List.cons_append, List.append_assoc, List.nil_append] at hnd
  simp only [Seg, seg_append, firstK_nil, firstK_cons, firstK_append, lastRef, lastRef_append, firstRef, List.cons_append, List.nil_append, and_true, true_and, and_assoc] at hsg hdc
  have hs : [c, dc, d, r.x, r.dx, x.x, x.dx].Nodup := List.Sublist.nodup ((.cons_cons _ (.cons_cons _ (.cons_cons _ (.cons_cons _ (.cons_cons _ (.cons_cons _ (.cons_cons _ (List.nil_sublist _))))))))) hnd
  simp only [List.nodup_cons, List.mem_cons, List.not_mem_nil, or_false, not_or, List.nodup_nil, not_false_eq_true, and_true] at hs
  obtain ⟨⟨_, _, _, _, _, _⟩, ⟨_, _, _, _, _⟩, ⟨_, _, _, _⟩, ⟨_, _, _⟩, ⟨_, _⟩, _⟩ := hs
  obtain ⟨hr0, hx0⟩ := hsg
  obtain ⟨hr1, tr1, tr2, tr3, tr4, tr5, tr6, hr2⟩ := hr0
  have hr := And.intro hr1 hr2
  obtain ⟨hx1, tx1, tx2, tx3, tx4, tx5, tx6, hx2⟩ := hx0
  have hx := And.intro hx1 hx2
  refine gi_last1 B F X T hk hd hu (by simp only [List.nodup_cons, List.mem_cons, List.not_mem_nil, or_false, not_or, List.nodup_nil, not_false_eq_true, and_true]; (repeat' apply And.intro) <;> first | assumption | exact Ne.symm (by assumption)) hxs hkx (hxk x (by simp)) rfl (C.keys r (by simp)).1.handed (news_cons (C.new F (by first | (simp; done) | (simp [adr, adr_append]; done)) C.inst) (news_cons (C.new F (by first | (simp; done) | (simp [adr, adr_append]; done)) hdc) (news_cons (C.new F (by first | (simp; done) | (simp [adr, adr_append]; done)) hdd) (news_cons (C.new F (by first | (simp; done) | (simp [adr, adr_append]; done)) hx.1) (news_cons (C.new F (by first | (simp; done) | (simp [adr, adr_append]; done)) hx.2) (news_cons (C.new F (by first | (simp; done) | (simp [adr, adr_append]; done)) hr.1) (news_cons (C.new F (by first | (simp; done) | (simp [adr, adr_append]; done)) hr.2) news_nil))))))) (fun h' tk' F' N' K' => ?_)
  have hT : ∀ b ∈ [c, dc, d, x.x, x.dx, r.x, r.dx], b ∈ c :: dc :: d :: adr (r :: [x]) := by simp [adr, adr_append]
  refine ret _ _ F' (C.reform hk98 K' hT (.swap _ _ _) (N' _ (.head _)).1 (by simp only [firstRef, lastRef, lastRef_append, List.cons_append, List.nil_append]; exact ⟨_, _, _, _, _, _, _, (N' _ (.tail _ (.head _))).1⟩) ((N' _ (.tail _ (.tail _ (.head _)))).1.trans hdd.symm) ?_) (K'.weaken hT)
  simp only [Seg, firstK, and_true, and_assoc]
  exact ⟨⟨(N' _ (.tail _ (.tail _ (.tail _ (.head _))))).1, _, _, _, _, _, _, (N' _ (.tail _ (.tail _ (.tail _ (.tail _ (.head _)))))).1⟩, ⟨(N' _ (.tail _ (.tail _ (.tail _ (.tail _ (.tail _ (.head _))))))).1, _, _, _, _, _, _, (N' _ (.tail _ (.tail _ (.tail _ (.tail _ (.tail _ (.tail _ (.head _)))))))).1⟩⟩

set_option maxHeartbeats 1000000 in
theorem item_last {dp un : Nat} {gd : Option (List Code)} {cn : Str} {cs : Scope} {a : Addr} {ccd : Value} {cl : List (Str × Addr)} {outer : List Env} {A₀ : Around} {base h₀ : Heap} {L : Addr} {m : Str → Option Value} {s : Shared} {Q E : Value → Shared → Prop}
    {ow : Addr → Nat} {k : Nat} {M : Int} {gk c dc d : Addr} {x : Rec} {key : Value} {r z : Rec} {M9 : List Rec}
    (B : Below A₀ base outer h₀) (F : Fr h₀ L s.heap m) (X : (hd.heap_39 w.params).In h₀) (T : Top p loose mean mg mb h₀) (hk : cs.kind = .function) (hd : dp + 20 < recursionLimit) (hu : un + 200 < cLine) (hk98 : k ≠ 98)
    (C : CacheAt prog w s.heap ow k h₀ L M gk c dc d (r :: (M9 ++ [z]) ++ [x])) (hkx : IsKey prog w s.heap x.key key)
    (ret : ∀ h' tk', Fr h₀ L h' m → CacheAt prog w h' ow k h₀ L M gk c dc d (x :: (r :: (M9 ++ [z]))) → Keep s.heap h' (c :: dc :: d :: adr (r :: (M9 ++ [z]) ++ [x])) → Q (.int x.i x.vt) { s with heap := h', toks := tk' }) :
    wpAny (model prog w) (ktrTop dp un gd cn cs L a ccd cl outer) (call (.ref 86) [.ref c, key]) Q E s := by
  have hnd := C.nodup
  have hsg := C.seg
  obtain ⟨tc1, tc2, tc3, tc4, tc5, tm, ta, hdc⟩ := C.dict
  obtain ⟨xs, n, hdd, hxs, hxo, hxl, hxk⟩ := C.ents
  simp only [adr, adr_append, List.cons_append, List.append_assoc, List.nil_append] at hnd
  simp only [Seg, seg_append, firstK_nil, firstK_cons, firstK_append, lastRef, lastRef_append, firstRef, List.cons_append, List.nil_append, and_true, true_and, and_assoc] at hsg hdc
  have hs : [c, dc, d, r.x, r.dx, z.x, z.dx, x.x, x.dx].Nodup := List.Sublist.nodup ((.cons_cons _ (.cons_cons _ (.cons_cons _ (.cons_cons _ (.cons_cons _ (.trans (.refl _) (List.sublist_append_right (adr M9) _)))))))) hnd
  simp only [List.nodup_cons, List.mem_cons, List.not_mem_nil, or_false, not_or, List.nodup_nil, not_false_eq_true, and_true] at hs
  obtain ⟨⟨_, _, _, _, _, _, _, _⟩, ⟨_, _, _, _, _, _, _⟩, ⟨_, _, _, _, _, _⟩, ⟨_, _, _, _, _⟩, ⟨_, _, _, _⟩, ⟨_, _, _⟩, ⟨_, _⟩, _⟩ := hs
  obtain ⟨hr0, hsM, hz0, hx0⟩ := hsg
  obtain ⟨hr1, tr1, tr2, tr3, tr4, tr5, tr6, hr2⟩ := hr0
  have hr := And.intro hr1 hr2
  obtain ⟨hz1, tz1, tz2, tz3, tz4, tz5, tz6, hz2⟩ := hz0
  have hz := And.intro hz1 hz2
  obtain ⟨hx1, tx1, tx2, tx3, tx4, tx5, tx6, hx2⟩ := hx0
  have hx := And.intro hx1 hx2
  refine gi_last B F X T hk hd hu (by simp only [List.nodup_cons, List.mem_cons, List.not_mem_nil, or_false, not_or, List.nodup_nil, not_false_eq_true, and_true]; (repeat' apply And.intro) <;> first | assumption | exact Ne.symm (by assumption)) hxs hkx (hxk x (by simp)) rfl (C.keys r (by simp)).1.handed (news_cons (C.new F (by first | (simp; done) | (simp [adr, adr_append]; done)) C.inst) (news_cons (C.new F (by first | (simp; done) | (simp [adr, adr_append]; done)) hdc) (news_cons (C.new F (by first | (simp; done) | (simp [adr, adr_append]; done)) hdd) (news_cons (C.new F (by first | (simp; done) | (simp [adr, adr_append]; done)) hx.1) (news_cons (C.new F (by first | (simp; done) | (simp [adr, adr_append]; done)) hx.2) (news_cons (C.new F (by first | (simp; done) | (simp [adr, adr_append]; done)) hr.1) (news_cons (C.new F (by first | (simp; done) | (simp [adr, adr_append]; done)) hr.2) (news_cons (C.new F (by first | (simp; done) | (simp [adr, adr_append]; done)) hz.1) (news_cons (C.new F (by first | (simp; done) | (simp [adr, adr_append]; done)) hz.2) news_nil))))))))) (fun h' tk' F' N' K' => ?_)
  have hT : ∀ b ∈ [c, dc, d, x.x, x.dx, r.x, r.dx, z.x, z.dx], b ∈ c :: dc :: d :: adr (r :: (M9 ++ [z]) ++ [x]) := by simp [adr, adr_append]
  refine ret _ _ F' (C.reform hk98 K' hT (List.perm_append_comm (l₁ := [x])) (N' _ (.head _)).1 (by simp only [firstRef, lastRef, lastRef_append, List.cons_append, List.nil_append]; exact ⟨_, _, _, _, _, _, _, (N' _ (.tail _ (.head _))).1⟩) ((N' _ (.tail _ (.tail _ (.head _)))).1.trans hdd.symm) ?_) (K'.weaken hT)
  have hoM : ∀ b ∈ adr M9, b ∉ [c, dc, d, x.x, x.dx, r.x, r.dx, z.x, z.dx] := off_mid (pre := [c, dc, d, r.x, r.dx]) (post := [z.x, z.dx, x.x, x.dx]) (by simpa only [List.cons_append, List.append_assoc, List.nil_append] using hnd) (by simp)
  simp only [Seg, seg_append, firstK_nil, firstK_cons, firstK_append, lastRef, lastRef_append, and_true, and_assoc]
  exact ⟨⟨(N' _ (.tail _ (.tail _ (.tail _ (.head _))))).1, _, _, _, _, _, _, (N' _ (.tail _ (.tail _ (.tail _ (.tail _ (.head _)))))).1⟩, ⟨(N' _ (.tail _ (.tail _ (.tail _ (.tail _ (.tail _ (.head _))))))).1, _, _, _, _, _, _, (N' _ (.tail _ (.tail _ (.tail _ (.tail _ (.tail _ (.tail _ (.head _)))))))).1⟩, hsM.keep (fun b hb o e => K' b o e (hoM b hb)), ⟨(N' _ (.tail _ (.tail _ (.tail _ (.tail _ (.tail _ (.tail _ (.tail _ (.head _))))))))).1, _, _, _, _, _, _, (N' _ (.tail _ (.tail _ (.tail _ (.tail _ (.tail _ (.tail _ (.tail _ (.tail _ (.head _)))))))))).1⟩⟩

set_option maxHeartbeats 1000000 in
theorem item_mid1 {dp un : Nat} {gd : Option (List Code)} {cn : Str} {cs : Scope} {a : Addr} {ccd : Value} {cl : List (Str × Addr)} {outer : List Env} {A₀ : Around} {base h₀ : Heap} {L : Addr} {m : Str → Option Value} {s : Shared} {Q E : Value → Shared → Prop}
    {ow : Addr → Nat} {k : Nat} {M : Int} {gk c dc d : Addr} {x : Rec} {key : Value} {r y : Rec} {R : List Rec}
    (B : Below A₀ base outer h₀) (F : Fr h₀ L s.heap m) (X : (hd.heap_39 w.params).In h₀) (T : Top p loose mean mg mb h₀) (hk : cs.kind = .function) (hd : dp + 20 < recursionLimit) (hu : un + 200 < cLine) (hk98 : k ≠ 98)
    (C : CacheAt prog w s.heap ow k h₀ L M gk c dc d (r :: x :: y :: R)) (hkx : IsKey prog w s.heap x.key key)
    (ret : ∀ h' tk', Fr h₀ L h' m → CacheAt prog w h' ow k h₀ L M gk c dc d (x :: r :: y :: R) → Keep s.heap h' (c :: dc :: d :: adr (r :: x :: y :: R)) → Q (.int x.i x.vt) { s with heap := h', toks := tk' }) :
    wpAny (model prog w) (ktrTop dp un gd cn cs L a ccd cl outer) (call (.ref 86) [.ref c, key]) Q E s := by
  have hnd := C.nodup
  have hsg := C.seg
  obtain ⟨tc1, tc2, tc3, tc4, tc5, tm, ta, hdc⟩ := C.dict
  obtain ⟨xs, n, hdd, hxs, hxo, hxl, hxk⟩ := C.ents
  simp only [adr, adr_append, List.cons_append, List.append_assoc, List.nil_append] at hnd
  simp only [Seg, seg_append, firstK_nil, firstK_cons, firstK_append, lastRef, lastRef_append, firstRef, List.cons_append, List.nil_append, and_true, true_and, and_assoc] at hsg hdc
  have hs : [c, dc, d, r.x, r.dx, x.x, x.dx, y.x, y.dx].Nodup := List.Sublist.nodup ((.cons_cons _ (.cons_cons _ (.cons_cons _ (.cons_cons _ (.cons_cons _ (.cons_cons _ (.cons_cons _ (.cons_cons _ (.cons_cons _ (List.nil_sublist _))))))))))) hnd
  simp only [List.nodup_cons, List.mem_cons, List.not_mem_nil, or_false, not_or, List.nodup_nil, not_false_eq_true, and_true] at hs
  obtain ⟨⟨_, _, _, _, _, _, _, _⟩, ⟨_, _, _, _, _, _, _⟩, ⟨_, _, _, _, _, _⟩, ⟨_, _, _, _, _⟩, ⟨_, _, _, _⟩, ⟨_, _, _⟩, ⟨_, _⟩, _⟩ := hs
  obtain ⟨hr0, hx0, hy0, hsR⟩ := hsg
  obtain ⟨hr1, tr1, tr2, tr3, tr4, tr5, tr6, hr2⟩ := hr0
  have hr := And.intro hr1 hr2
  obtain ⟨hx1, tx1, tx2, tx3, tx4, tx5, tx6, hx2⟩ := hx0
  have hx := And.intro hx1 hx2
  obtain ⟨hy1, ty1, ty2, ty3, ty4, ty5, ty6, hy2⟩ := hy0
  have hy := And.intro hy1 hy2
  refine gi_mid1 B F X T hk hd hu (by simp only [List.nodup_cons, List.mem_cons, List.not_mem_nil, or_false, not_or, List.nodup_nil, not_false_eq_true, and_true]; (repeat' apply And.intro) <;> first | assumption | exact Ne.symm (by assumption)) hkx (hxk x (by simp)) rfl hxs (C.keys y (by simp)).1 (hxk y (by simp)) (C.keys r (by simp)).1.handed (C.keys y (by simp)).1.handed (news_cons (C.new F (by first | (simp; done) | (simp [adr, adr_append]; done)) C.inst) (news_cons (C.new F (by first | (simp; done) | (simp [adr, adr_append]; done)) hdc) (news_cons (C.new F (by first | (simp; done) | (simp [adr, adr_append]; done)) hdd) (news_cons (C.new F (by first | (simp; done) | (simp [adr, adr_append]; done)) hx.1) (news_cons (C.new F (by first | (simp; done) | (simp [adr, adr_append]; done)) hx.2) (news_cons (C.new F (by first | (simp; done) | (simp [adr, adr_append]; done)) hr.1) (news_cons (C.new F (by first | (simp; done) | (simp [adr, adr_append]; done)) hr.2) (news_cons (C.new F (by first | (simp; done) | (simp [adr, adr_append]; done)) hy.1) (news_cons (C.new F (by first | (simp; done) | (simp [adr, adr_append]; done)) hy.2) news_nil))))))))) (fun h' tk' F' N' K' => ?_)
  have hT : ∀ b ∈ [c, dc, d, x.x, x.dx, r.x, r.dx, y.x, y.dx], b ∈ c :: dc :: d :: adr (r :: x :: y :: R) := by simp [adr, adr_append]
  refine ret _ _ F' (C.reform hk98 K' hT (.swap _ _ _) (N' _ (.head _)).1 (by simp only [firstRef, lastRef, lastRef_append, List.cons_append, List.nil_append]; exact ⟨_, _, _, _, _, _, _, (N' _ (.tail _ (.head _))).1⟩) ((N' _ (.tail _ (.tail _ (.head _)))).1.trans hdd.symm) ?_) (K'.weaken hT)
  have hoR : ∀ b ∈ adr R, b ∉ [c, dc, d, x.x, x.dx, r.x, r.dx, y.x, y.dx] := fun b hb hT9 => off_of_nodup (ads := [c, dc, d, r.x, r.dx, x.x, x.dx, y.x, y.dx]) (by simpa only [List.cons_append, List.append_assoc, List.nil_append] using hnd) b hb ((by simp : ∀ b ∈ [c, dc, d, x.x, x.dx, r.x, r.dx, y.x, y.dx], b ∈ [c, dc, d, r.x, r.dx, x.x, x.dx, y.x, y.dx]) b hT9)
  simp only [Seg, seg_append, firstK_nil, firstK_cons, firstK_append, lastRef, lastRef_append, and_true, and_assoc]
  exact ⟨⟨(N' _ (.tail _ (.tail _ (.tail _ (.head _))))).1, _, _, _, _, _, _, (N' _ (.tail _ (.tail _ (.tail _ (.tail _ (.head _)))))).1⟩, ⟨(N' _ (.tail _ (.tail _ (.tail _ (.tail _ (.tail _ (.head _))))))).1, _, _, _, _, _, _, (N' _ (.tail _ (.tail _ (.tail _ (.tail _ (.tail _ (.tail _ (.head _)))))))).1⟩, ⟨(N' _ (.tail _ (.tail _ (.tail _ (.tail _ (.tail _ (.tail _ (.tail _ (.head _))))))))).1, _, _, _, _, _, _, (N' _ (.tail _ (.tail _ (.tail _ (.tail _ (.tail _ (.tail _ (.tail _ (.tail _ (.head _)))))))))).1⟩, hsR.keep (fun b hb o e => K' b o e (hoR b hb))⟩

set_option maxHeartbeats 1000000 in
theorem item_mid {dp un : Nat} {gd : Option (List Code)} {cn : Str} {cs : Scope} {a : Addr} {ccd : Value} {cl : List (Str × Addr)} {outer : List Env} {A₀ : Around} {base h₀ : Heap} {L : Addr} {m : Str → Option Value} {s : Shared} {Q E : Value → Shared → Prop}
    {ow : Addr → Nat} {k : Nat} {M : Int} {gk c dc d : Addr} {x : Rec} {key : Value} {r y z : Rec} {M9 : List Rec} {R : List Rec}
    (B : Below A₀ base outer h₀) (F : Fr h₀ L s.heap m) (X : (hd.heap_39 w.params).In h₀) (T : Top p loose mean mg mb h₀) (hk : cs.kind = .function) (hd : dp + 20 < recursionLimit) (hu : un + 200 < cLine) (hk98 : k ≠ 98)
    (C : CacheAt prog w s.heap ow k h₀ L M gk c dc d (r :: (M9 ++ [z]) ++ x :: y :: R)) (hkx : IsKey prog w s.heap x.key key)
    (ret : ∀ h' tk', Fr h₀ L h' m → CacheAt prog w h' ow k h₀ L M gk c dc d (x :: (r :: (M9 ++ [z]) ++ y :: R)) → Keep s.heap h' (c :: dc :: d :: adr (r :: (M9 ++ [z]) ++ x :: y :: R)) → Q (.int x.i x.vt) { s with heap := h', toks := tk' }) :
    wpAny (model prog w) (ktrTop dp un gd cn cs L a ccd cl outer) (call (.ref 86) [.ref c, key]) Q E s := by
  have hnd := C.nodup
  have hsg := C.seg
  obtain ⟨tc1, tc2, tc3, tc4, tc5, tm, ta, hdc⟩ := C.dict
  obtain ⟨xs, n, hdd, hxs, hxo, hxl, hxk⟩ := C.ents
  simp only [adr, adr_append, List.cons_append, List.append_assoc, List.nil_append] at hnd
  simp only [Seg, seg_append, firstK_nil, firstK_cons, firstK_append, lastRef, lastRef_append, firstRef, List.cons_append, List.nil_append, and_true, true_and, and_assoc] at hsg hdc
  have hs : [c, dc, d, r.x, r.dx, z.x, z.dx, x.x, x.dx, y.x, y.dx].Nodup := List.Sublist.nodup ((.cons_cons _ (.cons_cons _ (.cons_cons _ (.cons_cons _ (.cons_cons _ (.trans (.cons_cons _ (.cons_cons _ (.cons_cons _ (.cons_cons _ (.cons_cons _ (.cons_cons _ (List.nil_sublist _))))))) (List.sublist_append_right (adr M9) _)))))))) hnd
  simp only [List.nodup_cons, List.mem_cons, List.not_mem_nil, or_false, not_or, List.nodup_nil, not_false_eq_true, and_true] at hs
  obtain ⟨⟨_, _, _, _, _, _, _, _, _, _⟩, ⟨_, _, _, _, _, _, _, _, _⟩, ⟨_, _, _, _, _, _, _, _⟩, ⟨_, _, _, _, _, _, _⟩, ⟨_, _, _, _, _, _⟩, ⟨_, _, _, _, _⟩, ⟨_, _, _, _⟩, ⟨_, _, _⟩, ⟨_, _⟩, _⟩ := hs
  obtain ⟨hr0, hsM, hz0, hx0, hy0, hsR⟩ := hsg
  obtain ⟨hr1, tr1, tr2, tr3, tr4, tr5, tr6, hr2⟩ := hr0
  have hr := And.intro hr1 hr2
  obtain ⟨hz1, tz1, tz2, tz3, tz4, tz5, tz6, hz2⟩ := hz0
  have hz := And.intro hz1 hz2
  obtain ⟨hx1, tx1, tx2, tx3, tx4, tx5, tx6, hx2⟩ := hx0
  have hx := And.intro hx1 hx2
  obtain ⟨hy1, ty1, ty2, ty3, ty4, ty5, ty6, hy2⟩ := hy0
  have hy := And.intro hy1 hy2
  refine gi_mid B F X T hk hd hu (by simp only [List.nodup_cons, List.mem_cons, List.not_mem_nil, or_false, not_or, List.nodup_nil, not_false_eq_true, and_true]; (repeat' apply And.intro) <;> first | assumption | exact Ne.symm (by assumption)) hkx (hxk x (by simp)) rfl hxs (C.keys y (by simp)).1 (hxk y (by simp)) (C.keys r (by simp)).1.handed (C.keys y (by simp)).1.handed (news_cons (C.new F (by first | (simp; done) | (simp [adr, adr_append]; done)) C.inst) (news_cons (C.new F (by first | (simp; done) | (simp [adr, adr_append]; done)) hdc) (news_cons (C.new F (by first | (simp; done) | (simp [adr, adr_append]; done)) hdd) (news_cons (C.new F (by first | (simp; done) | (simp [adr, adr_append]; done)) hx.1) (news_cons (C.new F (by first | (simp; done) | (simp [adr, adr_append]; done)) hx.2) (news_cons (C.new F (by first | (simp; done) | (simp [adr, adr_append]; done)) hr.1) (news_cons (C.new F (by first | (simp; done) | (simp [adr, adr_append]; done)) hr.2) (news_cons (C.new F (by first | (simp; done) | (simp [adr, adr_append]; done)) hy.1) (news_cons (C.new F (by first | (simp; done) | (simp [adr, adr_append]; done)) hy.2) (news_cons (C.new F (by first | (simp; done) | (simp [adr, adr_append]; done)) hz.1) (news_cons (C.new F (by first | (simp; done) | (simp [adr, adr_append]; done)) hz.2) news_nil))))))))))) (fun h' tk' F' N' K' => ?_)
  have hT : ∀ b ∈ [c, dc, d, x.x, x.dx, r.x, r.dx, y.x, y.dx, z.x, z.dx], b ∈ c :: dc :: d :: adr (r :: (M9 ++ [z]) ++ x :: y :: R) := by simp [adr, adr_append]
  refine ret _ _ F' (C.reform hk98 K' hT List.perm_middle.symm (N' _ (.head _)).1 (by simp only [firstRef, lastRef, lastRef_append, List.cons_append, List.nil_append]; exact ⟨_, _, _, _, _, _, _, (N' _ (.tail _ (.head _))).1⟩) ((N' _ (.tail _ (.tail _ (.head _)))).1.trans hdd.symm) ?_) (K'.weaken hT)
  have hoM : ∀ b ∈ adr M9, b ∉ [c, dc, d, x.x, x.dx, r.x, r.dx, y.x, y.dx, z.x, z.dx] := off_mid (pre := [c, dc, d, r.x, r.dx]) (post := (z.x :: z.dx :: x.x :: x.dx :: y.x :: y.dx :: adr R)) (by simpa only [List.cons_append, List.append_assoc, List.nil_append] using hnd) (by simp)
  have hoR : ∀ b ∈ adr R, b ∉ [c, dc, d, x.x, x.dx, r.x, r.dx, y.x, y.dx, z.x, z.dx] := fun b hb hT9 => off_of_nodup (ads := (c :: dc :: d :: r.x :: r.dx :: (adr M9 ++ [z.x, z.dx, x.x, x.dx, y.x, y.dx]))) (by simpa only [List.cons_append, List.append_assoc, List.nil_append] using hnd) b hb ((by simp : ∀ b ∈ [c, dc, d, x.x, x.dx, r.x, r.dx, y.x, y.dx, z.x, z.dx], b ∈ (c :: dc :: d :: r.x :: r.dx :: (adr M9 ++ [z.x, z.dx, x.x, x.dx, y.x, y.dx]))) b hT9)
  simp only [Seg, seg_append, firstK_nil, firstK_cons, firstK_append, lastRef, lastRef_append, and_true, and_assoc, List.cons_append]
  exact ⟨⟨(N' _ (.tail _ (.tail _ (.tail _ (.head _))))).1, _, _, _, _, _, _, (N' _ (.tail _ (.tail _ (.tail _ (.tail _ (.head _)))))).1⟩, ⟨(N' _ (.tail _ (.tail _ (.tail _ (.tail _ (.tail _ (.head _))))))).1, _, _, _, _, _, _, (N' _ (.tail _ (.tail _ (.tail _ (.tail _ (.tail _ (.tail _ (.head _)))))))).1⟩, hsM.keep (fun b hb o e => K' b o e (hoM b hb)), ⟨(N' _ (.tail _ (.tail _ (.tail _ (.tail _ (.tail _ (.tail _ (.tail _ (.tail _ (.tail _ (.head _))))))))))).1, _, _, _, _, _, _, (N' _ (.tail _ (.tail _ (.tail _ (.tail _ (.tail _ (.tail _ (.tail _ (.tail _ (.tail _ (.tail _ (.head _)))))))))))).1⟩, ⟨(N' _ (.tail _ (.tail _ (.tail _ (.tail _ (.tail _ (.tail _ (.tail _ (.head _))))))))).1, _, _, _, _, _, _, (N' _ (.tail _ (.tail _ (.tail _ (.tail _ (.tail _ (.tail _ (.tail _ (.tail _ (.head _)))))))))).1⟩, hsR.keep (fun b hb o e => K' b o e (hoR b hb))⟩

set_option maxHeartbeats 1000000 in
theorem geth_mru {dp un : Nat} {gd : Option (List Code)} {cn : Str} {cs : Scope} {a : Addr} {ccd : Value} {cl : List (Str × Addr)} {outer : List Env} {A₀ : Around} {base h₀ : Heap} {L : Addr} {m : Str → Option Value} {s : Shared} {Q E : Value → Shared → Prop}
    {ow : Addr → Nat} {k : Nat} {M : Int} {gk c dc d : Addr} {x : Rec} {key dflt : Value} {R : List Rec}
    (B : Below A₀ base outer h₀) (F : Fr h₀ L s.heap m) (X : (hd.heap_39 w.params).In h₀) (T : Top p loose mean mg mb h₀) (hk : cs.kind = .function) (hd : dp + 30 < recursionLimit) (hu : un + 300 < cLine) (hk98 : k ≠ 98)
    (C : CacheAt prog w s.heap ow k h₀ L M gk c dc d (x :: R)) (hkx : IsKey prog w s.heap x.key key)
    (ret : ∀ h' tk', Fr h₀ L h' m → CacheAt prog w h' ow k h₀ L M gk c dc d (x :: R) → Keep s.heap h' (c :: dc :: d :: adr (x :: R)) → Q (.int x.i x.vt) { s with heap := h', toks := tk' }) :
    wpAny (model prog w) (ktrTop dp un gd cn cs L a ccd cl outer) (call (.ref 116) [.ref c, key, dflt]) Q E s := by
  have hnd := C.nodup
  have hsg := C.seg
  obtain ⟨tc1, tc2, tc3, tc4, tc5, tm, ta, hdc⟩ := C.dict
  obtain ⟨xs, n, hdd, hxs, hxo, hxl, hxk⟩ := C.ents
  simp only [adr, adr_append, List.cons_append, List.append_assoc, List.nil_append] at hnd
  simp only [Seg, seg_append, firstK_nil, firstK_cons, firstK_append, lastRef, lastRef_append, firstRef, List.cons_append, List.nil_append, and_true, true_and, and_assoc] at hsg hdc
  have hs : [c, dc, d, x.x, x.dx].Nodup := List.Sublist.nodup (.cons_cons _ (.cons_cons _ (.cons_cons _ (.cons_cons _ (.cons_cons _ (List.nil_sublist _)))))) hnd
  simp only [List.nodup_cons, List.mem_cons, List.not_mem_nil, or_false, not_or, List.nodup_nil, not_false_eq_true, and_true] at hs
  obtain ⟨⟨_, _, _, _⟩, ⟨_, _, _⟩, ⟨_, _⟩, _⟩ := hs
  obtain ⟨hx0, hsR⟩ := hsg
  obtain ⟨hx1, tx1, tx2, tx3, tx4, tx5, tx6, hx2⟩ := hx0
  have hx := And.intro hx1 hx2
  refine get_mru B F X T hk hd hu (by simp only [List.nodup_cons, List.mem_cons, List.not_mem_nil, or_false, not_or, List.nodup_nil, not_false_eq_true, and_true]; (repeat' apply And.intro) <;> first | assumption | exact Ne.symm (by assumption)) hxs hkx (hxk x (by simp)) rfl C.sysd (news_cons (C.new F (by first | (simp; done) | (simp [adr, adr_append]; done)) C.inst) (news_cons (C.new F (by first | (simp; done) | (simp [adr, adr_append]; done)) hdc) (news_cons (C.new F (by first | (simp; done) | (simp [adr, adr_append]; done)) hdd) (news_cons (C.new F (by first | (simp; done) | (simp [adr, adr_append]; done)) hx.1) (news_cons (C.new F (by first | (simp; done) | (simp [adr, adr_append]; done)) hx.2) news_nil))))) (fun h' tk' F' N' K' => ?_)
  have hT : ∀ b ∈ [c, dc, d, x.x, x.dx], b ∈ c :: dc :: d :: adr (x :: R) := by simp [adr, adr_append]
  refine ret _ _ F' (C.reform hk98 K' hT (.refl _) (N' _ (.head _)).1 (by simp only [firstRef, lastRef, lastRef_append, List.cons_append, List.nil_append]; exact ⟨_, _, _, _, _, _, _, (N' _ (.tail _ (.head _))).1⟩) ((N' _ (.tail _ (.tail _ (.head _)))).1.trans hdd.symm) ?_) (K'.weaken hT)
  have hoR : ∀ b ∈ adr R, b ∉ [c, dc, d, x.x, x.dx] := fun b hb hT9 => off_of_nodup (ads := [c, dc, d, x.x, x.dx]) (by simpa only [List.cons_append, List.append_assoc, List.nil_append] using hnd) b hb ((by simp : ∀ b ∈ [c, dc, d, x.x, x.dx], b ∈ [c, dc, d, x.x, x.dx]) b hT9)
  simp only [Seg]
  exact ⟨⟨(N' _ (.tail _ (.tail _ (.tail _ (.head _))))).1, _, _, _, _, _, _, (N' _ (.tail _ (.tail _ (.tail _ (.tail _ (.head _)))))).1⟩, hsR.keep (fun b hb o e => K' b o e (hoR b hb))⟩

set_option maxHeartbeats 1000000 in
theorem geth_last1 {dp un : Nat} {gd : Option (List Code)} {cn : Str} {cs : Scope} {a : Addr} {ccd : Value} {cl : List (Str × Addr)} {outer : List Env} {A₀ : Around} {base h₀ : Heap} {L : Addr} {m : Str → Option Value} {s : Shared} {Q E : Value → Shared → Prop}
    {ow : Addr → Nat} {k : Nat} {M : Int} {gk c dc d : Addr} {x : Rec} {key dflt : Value} {r : Rec}
    (B : Below A₀ base outer h₀) (F : Fr h₀ L s.heap m) (X : (hd.heap_39 w.params).In h₀) (T : Top p loose mean mg mb h₀) (hk : cs.kind = .function) (hd : dp + 30 < recursionLimit) (hu : un + 300 < cLine) (hk98 : k ≠ 98)
    (C : CacheAt prog w s.heap ow k h₀ L M gk c dc d (r :: [x])) (hkx : IsKey prog w s.heap x.key key)
    (ret : ∀ h' tk', Fr h₀ L h' m → CacheAt prog w h' ow k h₀ L M gk c dc d (x :: [r]) → Keep s.heap h' (c :: dc :: d :: adr (r :: [x])) → Q (.int x.i x.vt) { s with heap := h', toks := tk' }) :
    wpAny (model prog w) (ktrTop dp un gd cn cs L a ccd cl outer) (call (.ref 116) [.ref c, key, dflt]) Q E s := by
  have hnd := C.nodup
  have hsg := C.seg
  obtain ⟨tc1, tc2, tc3, tc4, tc5, tm, ta, hdc⟩ := C.dict
  obtain ⟨xs, n, hdd, hxs, hxo, hxl, hxk⟩ := C.ents
  simp only [adr, adr_append, List.cons_append, List.append_assoc, List.nil_append] at hnd
  simp only [Seg, seg_append, firstK_nil, firstK_cons, firstK_append, lastRef, lastRef_append, firstRef, List.cons_append, List.nil_append, and_true, true_and, and_assoc] at hsg hdc
  have hs : [c, dc, d, r.x, r.dx, x.x, x.dx].Nodup := List.Sublist.nodup ((.cons_cons _ (.cons_cons _ (.cons_cons _ (.cons_cons _ (.cons_cons _ (.cons_cons _ (.cons_cons _ (List.nil_sublist _))))))))) hnd
  simp only [List.nodup_cons, List.mem_cons, List.not_mem_nil, or_false, not_or, List.nodup_nil, not_false_eq_true, and_true] at hs
  obtain ⟨⟨_, _, _, _, _, _⟩, ⟨_, _, _, _, _⟩, ⟨_, _, _, _⟩, ⟨_, _, _⟩, ⟨_, _⟩, _⟩ := hs
  obtain ⟨hr0, hx0⟩ := hsg
  obtain ⟨hr1, tr1, tr2, tr3, tr4, tr5, tr6, hr2⟩ := hr0
  have hr := And.intro hr1 hr2
  obtain ⟨hx1, tx1, tx2, tx3, tx4, tx5, tx6, hx2⟩ := hx0
  have hx := And.intro hx1 hx2
  refine get_last1 B F X T hk hd hu (by simp only [List.nodup_cons, List.mem_cons, List.not_mem_nil, or_false, not_or, List.nodup_nil, not_false_eq_true, and_true]; (repeat' apply And.intro) <;> first | assumption | exact Ne.symm (by assumption)) hxs hkx (hxk x (by simp)) rfl (C.keys r (by simp)).1.handed C.sysd (news_cons (C.new F (by first | (simp; done) | (simp [adr, adr_append]; done)) C.inst) (news_cons (C.new F (by first | (simp; done) | (simp [adr, adr_append]; done)) hdc) (news_cons (C.new F (by first | (simp; done) | (simp [adr, adr_append]; done)) hdd) (news_cons (C.new F (by first | (simp; done) | (simp [adr, adr_append]; done)) hx.1) (news_cons (C.new F (by first | (simp; done) | (simp [adr, adr_append]; done)) hx.2) (news_cons (C.new F (by first | (simp; done) | (simp [adr, adr_append]; done)) hr.1) (news_cons (C.new F (by first | (simp; done) | (simp [adr, adr_append]; done)) hr.2) news_nil))))))) (fun h' tk' F' N' K' => ?_)
  have hT : ∀ b ∈ [c, dc, d, x.x, x.dx, r.x, r.dx], b ∈ c :: dc :: d :: adr (r :: [x]) := by simp [adr, adr_append]
  refine ret _ _ F' (C.reform hk98 K' hT (.swap _ _ _) (N' _ (.head _)).1 (by simp only [firstRef, lastRef, lastRef_append, List.cons_append, List.nil_append]; exact ⟨_, _, _, _, _, _, _, (N' _ (.tail _ (.head _))).1⟩) ((N' _ (.tail _ (.tail _ (.head _)))).1.trans hdd.symm) ?_) (K'.weaken hT)
  simp only [Seg, firstK, and_true, and_assoc]
  exact ⟨⟨(N' _ (.tail _ (.tail _ (.tail _ (.head _))))).1, _, _, _, _, _, _, (N' _ (.tail _ (.tail _ (.tail _ (.tail _ (.head _)))))).1⟩, ⟨(N' _ (.tail _ (.tail _ (.tail _ (.tail _ (.tail _ (.head _))))))).1, _, _, _, _, _, _, (N' _ (.tail _ (.tail _ (.tail _ (.tail _ (.tail _ (.tail _ (.head _)))))))).1⟩⟩

set_option maxHeartbeats 1000000 in
theorem geth_last {dp un : Nat} {gd : Option (List Code)} {cn : Str} {cs : Scope} {a : Addr} {ccd : Value} {cl : List (Str × Addr)} {outer : List Env} {A₀ : Around} {base h₀ : Heap} {L : Addr} {m : Str → Option Value} {s : Shared} {Q E : Value → Shared → Prop}
    {ow : Addr → Nat} {k : Nat} {M : Int} {gk c dc d : Addr} {x : Rec} {key dflt : Value} {r z : Rec} {M9 : List Rec}
    (B : Below A₀ base outer h₀) (F : Fr h₀ L s.heap m) (X : (hd.heap_39 w.params).In h₀) (T : Top p loose mean mg mb h₀) (hk : cs.kind = .function) (hd : dp + 30 < recursionLimit) (hu : un + 300 < cLine) (hk98 : k ≠ 98)
    (C : CacheAt prog w s.heap ow k h₀ L M gk c dc d (r :: (M9 ++ [z]) ++ [x])) (hkx : IsKey prog w s.heap x.key key)
    (ret : ∀ h' tk', Fr h₀ L h' m → CacheAt prog w h' ow k h₀ L M gk c dc d (x :: (r :: (M9 ++ [z]))) → Keep s.heap h' (c :: dc :: d :: adr (r :: (M9 ++ [z]) ++ [x])) → Q (.int x.i x.vt) { s with heap := h', toks := tk' }) :
    wpAny (model prog w) (ktrTop dp un gd cn cs L a ccd cl outer) (call (.ref 116) [.ref c, key, dflt]) Q E s := by
  have hnd := C.nodup
  have hsg := C.seg
  obtain ⟨tc1, tc2, tc3, tc4, tc5, tm, ta, hdc⟩ := C.dict
  obtain ⟨xs, n, hdd, hxs, hxo, hxl, hxk⟩ := C.ents
  simp only [adr, adr_append, List.cons_append, List.append_assoc, List.nil_append] at hnd
  simp only [Seg, seg_append, firstK_nil, firstK_cons, firstK_append, lastRef, lastRef_append, firstRef, List.cons_append, List.nil_append, and_true, true_and, and_assoc] at hsg hdc
  have hs : [c, dc, d, r.x, r.dx, z.x, z.dx, x.x, x.dx].Nodup := List.Sublist.nodup ((.cons_cons _ (.cons_cons _ (.cons_cons _ (.cons_cons _ (.cons_cons _ (.trans (.refl _) (List.sublist_append_right (adr M9) _)))))))) hnd
  simp only [List.nodup_cons, List.mem_cons, List.not_mem_nil, or_false, not_or, List.nodup_nil, not_false_eq_true, and_true] at hs
  obtain ⟨⟨_, _, _, _, _, _, _, _⟩, ⟨_, _, _, _, _, _, _⟩, ⟨_, _, _, _, _, _⟩, ⟨_, _, _, _, _⟩, ⟨_, _, _, _⟩, ⟨_, _, _⟩, ⟨_, _⟩, _⟩ := hs
  obtain ⟨hr0, hsM, hz0, hx0⟩ := hsg
  obtain ⟨hr1, tr1, tr2, tr3, tr4, tr5, tr6, hr2⟩ := hr0
  have hr := And.intro hr1 hr2
  obtain ⟨hz1, tz1, tz2, tz3, tz4, tz5, tz6, hz2⟩ := hz0
  have hz := And.intro hz1 hz2
  obtain ⟨hx1, tx1, tx2, tx3, tx4, tx5, tx6, hx2⟩ := hx0
  have hx := And.intro hx1 hx2
  refine get_last B F X T hk hd hu (by simp only [List.nodup_cons, List.mem_cons, List.not_mem_nil, or_false, not_or, List.nodup_nil, not_false_eq_true, and_true]; (repeat' apply And.intro) <;> first | assumption | exact Ne.symm (by assumption)) hxs hkx (hxk x (by simp)) rfl (C.keys r (by simp)).1.handed C.sysd (news_cons (C.new F (by first | (simp; done) | (simp [adr, adr_append]; done)) C.inst) (news_cons (C.new F (by first | (simp; done) | (simp [adr, adr_append]; done)) hdc) (news_cons (C.new F (by first | (simp; done) | (simp [adr, adr_append]; done)) hdd) (news_cons (C.new F (by first | (simp; done) | (simp [adr, adr_append]; done)) hx.1) (news_cons (C.new F (by first | (simp; done) | (simp [adr, adr_append]; done)) hx.2) (news_cons (C.new F (by first | (simp; done) | (simp [adr, adr_append]; done)) hr.1) (news_cons (C.new F (by first | (simp; done) | (simp [adr, adr_append]; done)) hr.2) (news_cons (C.new F (by first | (simp; done) | (simp [adr, adr_append]; done)) hz.1) (news_cons (C.new F (by first | (simp; done) | (simp [adr, adr_append]; done)) hz.2) news_nil))))))))) (fun h' tk' F' N' K' => ?_)
  have hT : ∀ b ∈ [c, dc, d, x.x, x.dx, r.x, r.dx, z.x, z.dx], b ∈ c :: dc :: d :: adr (r :: (M9 ++ [z]) ++ [x]) := by simp [adr, adr_append]
  refine ret _ _ F' (C.reform hk98 K' hT (List.perm_append_comm (l₁ := [x])) (N' _ (.head _)).1 (by simp only [firstRef, lastRef, lastRef_append, List.cons_append, List.nil_append]; exact ⟨_, _, _, _, _, _, _, (N' _ (.tail _ (.head _))).1⟩) ((N' _ (.tail _ (.tail _ (.head _)))).1.trans hdd.symm) ?_) (K'.weaken hT)
  have hoM : ∀ b ∈ adr M9, b ∉ [c, dc, d, x.x, x.dx, r.x, r.dx, z.x, z.dx] := off_mid (pre := [c, dc, d, r.x, r.dx]) (post := [z.x, z.dx, x.x, x.dx]) (by simpa only [List.cons_append, List.append_assoc, List.nil_append] using hnd) (by simp)
  simp only [Seg, seg_append, firstK_nil, firstK_cons, firstK_append, lastRef, lastRef_append, and_true, and_assoc]
  exact ⟨⟨(N' _ (.tail _ (.tail _ (.tail _ (.head _))))).1, _, _, _, _, _, _, (N' _ (.tail _ (.tail _ (.tail _ (.tail _ (.head _)))))).1⟩, ⟨(N' _ (.tail _ (.tail _ (.tail _ (.tail _ (.tail _ (.head _))))))).1, _, _, _, _, _, _, (N' _ (.tail _ (.tail _ (.tail _ (.tail _ (.tail _ (.tail _ (.head _)))))))).1⟩, hsM.keep (fun b hb o e => K' b o e (hoM b hb)), ⟨(N' _ (.tail _ (.tail _ (.tail _ (.tail _ (.tail _ (.tail _ (.tail _ (.head _))))))))).1, _, _, _, _, _, _, (N' _ (.tail _ (.tail _ (.tail _ (.tail _ (.tail _ (.tail _ (.tail _ (.tail _ (.head _)))))))))).1⟩⟩

set_option maxHeartbeats 1000000 in
theorem geth_mid1 {dp un : Nat} {gd : Option (List Code)} {cn : Str} {cs : Scope} {a : Addr} {ccd : Value} {cl : List (Str × Addr)} {outer : List Env} {A₀ : Around} {base h₀ : Heap} {L : Addr} {m : Str → Option Value} {s : Shared} {Q E : Value → Shared → Prop}
    {ow : Addr → Nat} {k : Nat} {M : Int} {gk c dc d : Addr} {x : Rec} {key dflt : Value} {r y : Rec} {R : List Rec} {l : Rec}
    (B : Below A₀ base outer h₀) (F : Fr h₀ L s.heap m) (X : (hd.heap_39 w.params).In h₀) (T : Top p loose mean mg mb h₀) (hk : cs.kind = .function) (hd : dp + 30 < recursionLimit) (hu : un + 300 < cLine) (hk98 : k ≠ 98)
    (C : CacheAt prog w s.heap ow k h₀ L M gk c dc d (r :: x :: y :: (R ++ [l]))) (hkx : IsKey prog w s.heap x.key key)
    (ret : ∀ h' tk', Fr h₀ L h' m → CacheAt prog w h' ow k h₀ L M gk c dc d (x :: r :: y :: (R ++ [l])) → Keep s.heap h' (c :: dc :: d :: adr (r :: x :: y :: (R ++ [l]))) → Q (.int x.i x.vt) { s with heap := h', toks := tk' }) :
    wpAny (model prog w) (ktrTop dp un gd cn cs L a ccd cl outer) (call (.ref 116) [.ref c, key, dflt]) Q E s := by
  have hnd := C.nodup
  have hsg := C.seg
  obtain ⟨tc1, tc2, tc3, tc4, tc5, tm, ta, hdc⟩ := C.dict
  obtain ⟨xs, n, hdd, hxs, hxo, hxl, hxk⟩ := C.ents
  simp only [adr, adr_append, List.cons_append, List.append_assoc, List.nil_append] at hnd
  simp only [Seg, seg_append, firstK_nil, firstK_cons, firstK_append, lastRef, lastRef_append, firstRef, List.cons_append, List.nil_append, and_true, true_and, and_assoc] at hsg hdc
  have hs : [c, dc, d, r.x, r.dx, x.x, x.dx, y.x, y.dx, l.x].Nodup := List.Sublist.nodup ((.cons_cons _ (.cons_cons _ (.cons_cons _ (.cons_cons _ (.cons_cons _ (.cons_cons _ (.cons_cons _ (.cons_cons _ (.cons_cons _ (List.singleton_sublist.mpr (by simp [adr, adr_append])))))))))))) hnd
  simp only [List.nodup_cons, List.mem_cons, List.not_mem_nil, or_false, not_or, List.nodup_nil, not_false_eq_true, and_true] at hs
  obtain ⟨⟨_, _, _, _, _, _, _, _, _⟩, ⟨_, _, _, _, _, _, _, _⟩, ⟨_, _, _, _, _, _, _⟩, ⟨_, _, _, _, _, _⟩, ⟨_, _, _, _, _⟩, ⟨_, _, _, _⟩, ⟨_, _, _⟩, ⟨_, _⟩, _⟩ := hs
  obtain ⟨hr0, hx0, hy0, hsR⟩ := hsg
  obtain ⟨hr1, tr1, tr2, tr3, tr4, tr5, tr6, hr2⟩ := hr0
  have hr := And.intro hr1 hr2
  obtain ⟨hx1, tx1, tx2, tx3, tx4, tx5, tx6, hx2⟩ := hx0
  have hx := And.intro hx1 hx2
  obtain ⟨hy1, ty1, ty2, ty3, ty4, ty5, ty6, hy2⟩ := hy0
  have hy := And.intro hy1 hy2
  obtain ⟨hsR, hl0⟩ := hsR
  obtain ⟨hl1, tl1, tl2, tl3, tl4, tl5, tl6, hl2⟩ := hl0
  have hl := And.intro hl1 hl2
  refine get_mid1 B F X T hk hd hu (by simp only [List.nodup_cons, List.mem_cons, List.not_mem_nil, or_false, not_or, List.nodup_nil, not_false_eq_true, and_true]; (repeat' apply And.intro) <;> first | assumption | exact Ne.symm (by assumption)) hkx (hxk x (by simp)) rfl hxs (C.keys y (by simp)).1 (hxk y (by simp)) hl1 (C.keys r (by simp)).1.handed (C.keys y (by simp)).1.handed C.sysd (news_cons (C.new F (by first | (simp; done) | (simp [adr, adr_append]; done)) C.inst) (news_cons (C.new F (by first | (simp; done) | (simp [adr, adr_append]; done)) hdc) (news_cons (C.new F (by first | (simp; done) | (simp [adr, adr_append]; done)) hdd) (news_cons (C.new F (by first | (simp; done) | (simp [adr, adr_append]; done)) hx.1) (news_cons (C.new F (by first | (simp; done) | (simp [adr, adr_append]; done)) hx.2) (news_cons (C.new F (by first | (simp; done) | (simp [adr, adr_append]; done)) hr.1) (news_cons (C.new F (by first | (simp; done) | (simp [adr, adr_append]; done)) hr.2) (news_cons (C.new F (by first | (simp; done) | (simp [adr, adr_append]; done)) hy.1) (news_cons (C.new F (by first | (simp; done) | (simp [adr, adr_append]; done)) hy.2) news_nil))))))))) (fun h' tk' F' N' K' => ?_)
  have hT : ∀ b ∈ [c, dc, d, x.x, x.dx, r.x, r.dx, y.x, y.dx], b ∈ c :: dc :: d :: adr (r :: x :: y :: (R ++ [l])) := by simp [adr, adr_append]
  refine ret _ _ F' (C.reform hk98 K' hT (.swap _ _ _) (N' _ (.head _)).1 (by simp only [firstRef, lastRef, lastRef_append, List.cons_append, List.nil_append]; exact ⟨_, _, _, _, _, _, _, (N' _ (.tail _ (.head _))).1⟩) ((N' _ (.tail _ (.tail _ (.head _)))).1.trans hdd.symm) ?_) (K'.weaken hT)
  have hoR : ∀ b ∈ (adr R ++ [l.x, l.dx]), b ∉ [c, dc, d, x.x, x.dx, r.x, r.dx, y.x, y.dx] := fun b hb hT9 => off_of_nodup (ads := [c, dc, d, r.x, r.dx, x.x, x.dx, y.x, y.dx]) (by simpa only [List.cons_append, List.append_assoc, List.nil_append] using hnd) b hb ((by simp : ∀ b ∈ [c, dc, d, x.x, x.dx, r.x, r.dx, y.x, y.dx], b ∈ [c, dc, d, r.x, r.dx, x.x, x.dx, y.x, y.dx]) b hT9)
  simp only [Seg, seg_append, firstK_nil, firstK_cons, firstK_append, lastRef, lastRef_append, and_true, and_assoc]
  exact ⟨⟨(N' _ (.tail _ (.tail _ (.tail _ (.head _))))).1, _, _, _, _, _, _, (N' _ (.tail _ (.tail _ (.tail _ (.tail _ (.head _)))))).1⟩, ⟨(N' _ (.tail _ (.tail _ (.tail _ (.tail _ (.tail _ (.head _))))))).1, _, _, _, _, _, _, (N' _ (.tail _ (.tail _ (.tail _ (.tail _ (.tail _ (.tail _ (.head _)))))))).1⟩, ⟨(N' _ (.tail _ (.tail _ (.tail _ (.tail _ (.tail _ (.tail _ (.tail _ (.head _))))))))).1, _, _, _, _, _, _, (N' _ (.tail _ (.tail _ (.tail _ (.tail _ (.tail _ (.tail _ (.tail _ (.tail _ (.head _)))))))))).1⟩, hsR.keep (fun b hb o e => K' b o e (hoR b (List.mem_append_left _ hb))), (NodeAt.keep ⟨hl1, _, _, _, _, _, _, hl2⟩ (fun b hb o e => K' b o e (hoR b (List.mem_append_right _ hb))))⟩

set_option maxHeartbeats 1000000 in
theorem geth_mid {dp un : Nat} {gd : Option (List Code)} {cn : Str} {cs : Scope} {a : Addr} {ccd : Value} {cl : List (Str × Addr)} {outer : List Env} {A₀ : Around} {base h₀ : Heap} {L : Addr} {m : Str → Option Value} {s : Shared} {Q E : Value → Shared → Prop}
    {ow : Addr → Nat} {k : Nat} {M : Int} {gk c dc d : Addr} {x : Rec} {key dflt : Value} {r y z : Rec} {M9 : List Rec} {R : List Rec} {l : Rec}
    (B : Below A₀ base outer h₀) (F : Fr h₀ L s.heap m) (X : (hd.heap_39 w.params).In h₀) (T : Top p loose mean mg mb h₀) (hk : cs.kind = .function) (hd : dp + 30 < recursionLimit) (hu : un + 300 < cLine) (hk98 : k ≠ 98)
    (C : CacheAt prog w s.heap ow k h₀ L M gk c dc d (r :: (M9 ++ [z]) ++ x :: y :: (R ++ [l]))) (hkx : IsKey prog w s.heap x.key key)
    (ret : ∀ h' tk', Fr h₀ L h' m → CacheAt prog w h' ow k h₀ L M gk c dc d (x :: (r :: (M9 ++ [z]) ++ y :: (R ++ [l]))) → Keep s.heap h' (c :: dc :: d :: adr (r :: (M9 ++ [z]) ++ x :: y :: (R ++ [l]))) → Q (.int x.i x.vt) { s with heap := h', toks := tk' }) :
    wpAny (model prog w) (ktrTop dp un gd cn cs L a ccd cl outer) (call (.ref 116) [.ref c, key, dflt]) Q E s := by
  have hnd := C.nodup
  have hsg := C.seg
  obtain ⟨tc1, tc2, tc3, tc4, tc5, tm, ta, hdc⟩ := C.dict
  obtain ⟨xs, n, hdd, hxs, hxo, hxl, hxk⟩ := C.ents
  simp only [adr, adr_append, List.cons_append, List.append_assoc, List.nil_append] at hnd
  simp only [Seg, seg_append, firstK_nil, firstK_cons, firstK_append, lastRef, lastRef_append, firstRef, List.cons_append, List.nil_append, and_true, true_and, and_assoc] at hsg hdc
  have hs : [c, dc, d, r.x, r.dx, z.x, z.dx, x.x, x.dx, y.x, y.dx, l.x].Nodup := List.Sublist.nodup ((.cons_cons _ (.cons_cons _ (.cons_cons _ (.cons_cons _ (.cons_cons _ (.trans (.cons_cons _ (.cons_cons _ (.cons_cons _ (.cons_cons _ (.cons_cons _ (.cons_cons _ (List.singleton_sublist.mpr (by simp [adr, adr_append])))))))) (List.sublist_append_right (adr M9) _)))))))) hnd
  simp only [List.nodup_cons, List.mem_cons, List.not_mem_nil, or_false, not_or, List.nodup_nil, not_false_eq_true, and_true] at hs
  obtain ⟨⟨_, _, _, _, _, _, _, _, _, _, _⟩, ⟨_, _, _, _, _, _, _, _, _, _⟩, ⟨_, _, _, _, _, _, _, _, _⟩, ⟨_, _, _, _, _, _, _, _⟩, ⟨_, _, _, _, _, _, _⟩, ⟨_, _, _, _, _, _⟩, ⟨_, _, _, _, _⟩, ⟨_, _, _, _⟩, ⟨_, _, _⟩, ⟨_, _⟩, _⟩ := hs
  obtain ⟨hr0, hsM, hz0, hx0, hy0, hsR⟩ := hsg
  obtain ⟨hr1, tr1, tr2, tr3, tr4, tr5, tr6, hr2⟩ := hr0
  have hr := And.intro hr1 hr2
  obtain ⟨hz1, tz1, tz2, tz3, tz4, tz5, tz6, hz2⟩ := hz0
  have hz := And.intro hz1 hz2
  obtain ⟨hx1, tx1, tx2, tx3, tx4, tx5, tx6, hx2⟩ := hx0
  have hx := And.intro hx1 hx2
  obtain ⟨hy1, ty1, ty2, ty3, ty4, ty5, ty6, hy2⟩ := hy0
  have hy := And.intro hy1 hy2
  obtain ⟨hsR, hl0⟩ := hsR
  obtain ⟨hl1, tl1, tl2, tl3, tl4, tl5, tl6, hl2⟩ := hl0
  have hl := And.intro hl1 hl2
  refine get_mid B F X T hk hd hu (by simp only [List.nodup_cons, List.mem_cons, List.not_mem_nil, or_false, not_or, List.nodup_nil, not_false_eq_true, and_true]; (repeat' apply And.intro) <;> first | assumption | exact Ne.symm (by assumption)) hkx (hxk x (by simp)) rfl hxs (C.keys y (by simp)).1 (hxk y (by simp)) hl1 (C.keys r (by simp)).1.handed (C.keys y (by simp)).1.handed C.sysd (news_cons (C.new F (by first | (simp; done) | (simp [adr, adr_append]; done)) C.inst) (news_cons (C.new F (by first | (simp; done) | (simp [adr, adr_append]; done)) hdc) (news_cons (C.new F (by first | (simp; done) | (simp [adr, adr_append]; done)) hdd) (news_cons (C.new F (by first | (simp; done) | (simp [adr, adr_append]; done)) hx.1) (news_cons (C.new F (by first | (simp; done) | (simp [adr, adr_append]; done)) hx.2) (news_cons (C.new F (by first | (simp; done) | (simp [adr, adr_append]; done)) hr.1) (news_cons (C.new F (by first | (simp; done) | (simp [adr, adr_append]; done)) hr.2) (news_cons (C.new F (by first | (simp; done) | (simp [adr, adr_append]; done)) hy.1) (news_cons (C.new F (by first | (simp; done) | (simp [adr, adr_append]; done)) hy.2) (news_cons (C.new F (by first | (simp; done) | (simp [adr, adr_append]; done)) hz.1) (news_cons (C.new F (by first | (simp; done) | (simp [adr, adr_append]; done)) hz.2) news_nil))))))))))) (fun h' tk' F' N' K' => ?_)
  have hT : ∀ b ∈ [c, dc, d, x.x, x.dx, r.x, r.dx, y.x, y.dx, z.x, z.dx], b ∈ c :: dc :: d :: adr (r :: (M9 ++ [z]) ++ x :: y :: (R ++ [l])) := by simp [adr, adr_append]
  refine ret _ _ F' (C.reform hk98 K' hT List.perm_middle.symm (N' _ (.head _)).1 (by simp only [firstRef, lastRef, lastRef_append, List.cons_append, List.nil_append]; exact ⟨_, _, _, _, _, _, _, (N' _ (.tail _ (.head _))).1⟩) ((N' _ (.tail _ (.tail _ (.head _)))).1.trans hdd.symm) ?_) (K'.weaken hT)
  have hoM : ∀ b ∈ adr M9, b ∉ [c, dc, d, x.x, x.dx, r.x, r.dx, y.x, y.dx, z.x, z.dx] := off_mid (pre := [c, dc, d, r.x, r.dx]) (post := (z.x :: z.dx :: x.x :: x.dx :: y.x :: y.dx :: (adr R ++ [l.x, l.dx]))) (by simpa only [List.cons_append, List.append_assoc, List.nil_append] using hnd) (by simp)
  have hoR : ∀ b ∈ (adr R ++ [l.x, l.dx]), b ∉ [c, dc, d, x.x, x.dx, r.x, r.dx, y.x, y.dx, z.x, z.dx] := fun b hb hT9 => off_of_nodup (ads := (c :: dc :: d :: r.x :: r.dx :: (adr M9 ++ [z.x, z.dx, x.x, x.dx, y.x, y.dx]))) (by simpa only [List.cons_append, List.append_assoc, List.nil_append] using hnd) b hb ((by simp : ∀ b ∈ [c, dc, d, x.x, x.dx, r.x, r.dx, y.x, y.dx, z.x, z.dx], b ∈ (c :: dc :: d :: r.x :: r.dx :: (adr M9 ++ [z.x, z.dx, x.x, x.dx, y.x, y.dx]))) b hT9)
  simp only [Seg, seg_append, firstK_nil, firstK_cons, firstK_append, lastRef, lastRef_append, and_true, and_assoc, List.cons_append]
  exact ⟨⟨(N' _ (.tail _ (.tail _ (.tail _ (.head _))))).1, _, _, _, _, _, _, (N' _ (.tail _ (.tail _ (.tail _ (.tail _ (.head _)))))).1⟩, ⟨(N' _ (.tail _ (.tail _ (.tail _ (.tail _ (.tail _ (.head _))))))).1, _, _, _, _, _, _, (N' _ (.tail _ (.tail _ (.tail _ (.tail _ (.tail _ (.tail _ (.head _)))))))).1⟩, hsM.keep (fun b hb o e => K' b o e (hoM b hb)), ⟨(N' _ (.tail _ (.tail _ (.tail _ (.tail _ (.tail _ (.tail _ (.tail _ (.tail _ (.tail _ (.head _))))))))))).1, _, _, _, _, _, _, (N' _ (.tail _ (.tail _ (.tail _ (.tail _ (.tail _ (.tail _ (.tail _ (.tail _ (.tail _ (.tail _ (.head _)))))))))))).1⟩, ⟨(N' _ (.tail _ (.tail _ (.tail _ (.tail _ (.tail _ (.tail _ (.tail _ (.head _))))))))).1, _, _, _, _, _, _, (N' _ (.tail _ (.tail _ (.tail _ (.tail _ (.tail _ (.tail _ (.tail _ (.tail _ (.head _)))))))))).1⟩, hsR.keep (fun b hb o e => K' b o e (hoR b (List.mem_append_left _ hb))), (NodeAt.keep ⟨hl1, _, _, _, _, _, _, hl2⟩ (fun b hb o e => K' b o e (hoR b (List.mem_append_right _ hb))))⟩

set_option maxHeartbeats 1000000 in
theorem geth_mid1y {dp un : Nat} {gd : Option (List Code)} {cn : Str} {cs : Scope} {a : Addr} {ccd : Value} {cl : List (Str × Addr)} {outer : List Env} {A₀ : Around} {base h₀ : Heap} {L : Addr} {m : Str → Option Value} {s : Shared} {Q E : Value → Shared → Prop}
    {ow : Addr → Nat} {k : Nat} {M : Int} {gk c dc d : Addr} {x : Rec} {key dflt : Value} {r y : Rec} 
    (B : Below A₀ base outer h₀) (F : Fr h₀ L s.heap m) (X : (hd.heap_39 w.params).In h₀) (T : Top p loose mean mg mb h₀) (hk : cs.kind = .function) (hd : dp + 30 < recursionLimit) (hu : un + 300 < cLine) (hk98 : k ≠ 98)
    (C : CacheAt prog w s.heap ow k h₀ L M gk c dc d (r :: x :: y :: [])) (hkx : IsKey prog w s.heap x.key key)
    (ret : ∀ h' tk', Fr h₀ L h' m → CacheAt prog w h' ow k h₀ L M gk c dc d (x :: r :: y :: []) → Keep s.heap h' (c :: dc :: d :: adr (r :: x :: y :: [])) → Q (.int x.i x.vt) { s with heap := h', toks := tk' }) :
    wpAny (model prog w) (ktrTop dp un gd cn cs L a ccd cl outer) (call (.ref 116) [.ref c, key, dflt]) Q E s := by
  have hnd := C.nodup
  have hsg := C.seg
  obtain ⟨tc1, tc2, tc3, tc4, tc5, tm, ta, hdc⟩ := C.dict
  obtain ⟨xs, n, hdd, hxs, hxo, hxl, hxk⟩ := C.ents
  simp only [adr, adr_append, List.cons_append, List.append_assoc, List.nil_append] at hnd
  simp only [Seg, seg_append, firstK_nil, firstK_cons, firstK_append, lastRef, lastRef_append, firstRef, List.cons_append, List.nil_append, and_true, true_and, and_assoc] at hsg hdc
  have hs : [c, dc, d, r.x, r.dx, x.x, x.dx, y.x, y.dx].Nodup := List.Sublist.nodup ((.cons_cons _ (.cons_cons _ (.cons_cons _ (.cons_cons _ (.cons_cons _ (.cons_cons _ (.cons_cons _ (.cons_cons _ (.cons_cons _ (List.nil_sublist _))))))))))) hnd
  simp only [List.nodup_cons, List.mem_cons, List.not_mem_nil, or_false, not_or, List.nodup_nil, not_false_eq_true, and_true] at hs
  obtain ⟨⟨_, _, _, _, _, _, _, _⟩, ⟨_, _, _, _, _, _, _⟩, ⟨_, _, _, _, _, _⟩, ⟨_, _, _, _, _⟩, ⟨_, _, _, _⟩, ⟨_, _, _⟩, ⟨_, _⟩, _⟩ := hs
  obtain ⟨hr0, hx0, hy0⟩ := hsg
  obtain ⟨hr1, tr1, tr2, tr3, tr4, tr5, tr6, hr2⟩ := hr0
  have hr := And.intro hr1 hr2
  obtain ⟨hx1, tx1, tx2, tx3, tx4, tx5, tx6, hx2⟩ := hx0
  have hx := And.intro hx1 hx2
  obtain ⟨hy1, ty1, ty2, ty3, ty4, ty5, ty6, hy2⟩ := hy0
  have hy := And.intro hy1 hy2
  refine get_mid1y B F X T hk hd hu (by simp only [List.nodup_cons, List.mem_cons, List.not_mem_nil, or_false, not_or, List.nodup_nil, not_false_eq_true, and_true]; (repeat' apply And.intro) <;> first | assumption | exact Ne.symm (by assumption)) hkx (hxk x (by simp)) rfl hxs (C.keys y (by simp)).1 (hxk y (by simp)) (C.keys r (by simp)).1.handed (C.keys y (by simp)).1.handed C.sysd (news_cons (C.new F (by first | (simp; done) | (simp [adr, adr_append]; done)) C.inst) (news_cons (C.new F (by first | (simp; done) | (simp [adr, adr_append]; done)) hdc) (news_cons (C.new F (by first | (simp; done) | (simp [adr, adr_append]; done)) hdd) (news_cons (C.new F (by first | (simp; done) | (simp [adr, adr_append]; done)) hx.1) (news_cons (C.new F (by first | (simp; done) | (simp [adr, adr_append]; done)) hx.2) (news_cons (C.new F (by first | (simp; done) | (simp [adr, adr_append]; done)) hr.1) (news_cons (C.new F (by first | (simp; done) | (simp [adr, adr_append]; done)) hr.2) (news_cons (C.new F (by first | (simp; done) | (simp [adr, adr_append]; done)) hy.1) (news_cons (C.new F (by first | (simp; done) | (simp [adr, adr_append]; done)) hy.2) news_nil))))))))) (fun h' tk' F' N' K' => ?_)
  have hT : ∀ b ∈ [c, dc, d, x.x, x.dx, r.x, r.dx, y.x, y.dx], b ∈ c :: dc :: d :: adr (r :: x :: y :: []) := by simp [adr, adr_append]
  refine ret _ _ F' (C.reform hk98 K' hT (.swap _ _ _) (N' _ (.head _)).1 (by simp only [firstRef, lastRef, lastRef_append, List.cons_append, List.nil_append]; exact ⟨_, _, _, _, _, _, _, (N' _ (.tail _ (.head _))).1⟩) ((N' _ (.tail _ (.tail _ (.head _)))).1.trans hdd.symm) ?_) (K'.weaken hT)
  simp only [Seg, seg_append, firstK_nil, firstK_cons, firstK_append, lastRef, lastRef_append, and_true, and_assoc]
  exact ⟨⟨(N' _ (.tail _ (.tail _ (.tail _ (.head _))))).1, _, _, _, _, _, _, (N' _ (.tail _ (.tail _ (.tail _ (.tail _ (.head _)))))).1⟩, ⟨(N' _ (.tail _ (.tail _ (.tail _ (.tail _ (.tail _ (.head _))))))).1, _, _, _, _, _, _, (N' _ (.tail _ (.tail _ (.tail _ (.tail _ (.tail _ (.tail _ (.head _)))))))).1⟩, ⟨(N' _ (.tail _ (.tail _ (.tail _ (.tail _ (.tail _ (.tail _ (.tail _ (.head _))))))))).1, _, _, _, _, _, _, (N' _ (.tail _ (.tail _ (.tail _ (.tail _ (.tail _ (.tail _ (.tail _ (.tail _ (.head _)))))))))).1⟩⟩

set_option maxHeartbeats 1000000 in
theorem geth_midy {dp un : Nat} {gd : Option (List Code)} {cn : Str} {cs : Scope} {a : Addr} {ccd : Value} {cl : List (Str × Addr)} {outer : List Env} {A₀ : Around} {base h₀ : Heap} {L : Addr} {m : Str → Option Value} {s : Shared} {Q E : Value → Shared → Prop}
    {ow : Addr → Nat} {k : Nat} {M : Int} {gk c dc d : Addr} {x : Rec} {key dflt : Value} {r y z : Rec} {M9 : List Rec} 
    (B : Below A₀ base outer h₀) (F : Fr h₀ L s.heap m) (X : (hd.heap_39 w.params).In h₀) (T : Top p loose mean mg mb h₀) (hk : cs.kind = .function) (hd : dp + 30 < recursionLimit) (hu : un + 300 < cLine) (hk98 : k ≠ 98)
    (C : CacheAt prog w s.heap ow k h₀ L M gk c dc d (r :: (M9 ++ [z]) ++ x :: y :: [])) (hkx : IsKey prog w s.heap x.key key)
    (ret : ∀ h' tk', Fr h₀ L h' m → CacheAt prog w h' ow k h₀ L M gk c dc d (x :: (r :: (M9 ++ [z]) ++ y :: [])) → Keep s.heap h' (c :: dc :: d :: adr (r :: (M9 ++ [z]) ++ x :: y :: [])) → Q (.int x.i x.vt) { s with heap := h', toks := tk' }) :
    wpAny (model prog w) (ktrTop dp un gd cn cs L a ccd cl outer) (call (.ref 116) [.ref c, key, dflt]) Q E s := by
  have hnd := C.nodup
  have hsg := C.seg
  obtain ⟨tc1, tc2, tc3, tc4, tc5, tm, ta, hdc⟩ := C.dict
  obtain ⟨xs, n, hdd, hxs, hxo, hxl, hxk⟩ := C.ents
  simp only [adr, adr_append, List.cons_append, List.append_assoc, List.nil_append] at hnd
  simp only [Seg, seg_append, firstK_nil, firstK_cons, firstK_append, lastRef, lastRef_append, firstRef, List.cons_append, List.nil_append, and_true, true_and, and_assoc] at hsg hdc
  have hs : [c, dc, d, r.x, r.dx, z.x, z.dx, x.x, x.dx, y.x, y.dx].Nodup := List.Sublist.nodup ((.cons_cons _ (.cons_cons _ (.cons_cons _ (.cons_cons _ (.cons_cons _ (.trans (.cons_cons _ (.cons_cons _ (.cons_cons _ (.cons_cons _ (.cons_cons _ (.cons_cons _ (List.nil_sublist _))))))) (List.sublist_append_right (adr M9) _)))))))) hnd
  simp only [List.nodup_cons, List.mem_cons, List.not_mem_nil, or_false, not_or, List.nodup_nil, not_false_eq_true, and_true] at hs
  obtain ⟨⟨_, _, _, _, _, _, _, _, _, _⟩, ⟨_, _, _, _, _, _, _, _, _⟩, ⟨_, _, _, _, _, _, _, _⟩, ⟨_, _, _, _, _, _, _⟩, ⟨_, _, _, _, _, _⟩, ⟨_, _, _, _, _⟩, ⟨_, _, _, _⟩, ⟨_, _, _⟩, ⟨_, _⟩, _⟩ := hs
  obtain ⟨hr0, hsM, hz0, hx0, hy0⟩ := hsg
  obtain ⟨hr1, tr1, tr2, tr3, tr4, tr5, tr6, hr2⟩ := hr0
  have hr := And.intro hr1 hr2
  obtain ⟨hz1, tz1, tz2, tz3, tz4, tz5, tz6, hz2⟩ := hz0
  have hz := And.intro hz1 hz2
  obtain ⟨hx1, tx1, tx2, tx3, tx4, tx5, tx6, hx2⟩ := hx0
  have hx := And.intro hx1 hx2
  obtain ⟨hy1, ty1, ty2, ty3, ty4, ty5, ty6, hy2⟩ := hy0
  have hy := And.intro hy1 hy2
  refine get_midy B F X T hk hd hu (by simp only [List.nodup_cons, List.mem_cons, List.not_mem_nil, or_false, not_or, List.nodup_nil, not_false_eq_true, and_true]; (repeat' apply And.intro) <;> first | assumption | exact Ne.symm (by assumption)) hkx (hxk x (by simp)) rfl hxs (C.keys y (by simp)).1 (hxk y (by simp)) (C.keys r (by simp)).1.handed (C.keys y (by simp)).1.handed C.sysd (news_cons (C.new F (by first | (simp; done) | (simp [adr, adr_append]; done)) C.inst) (news_cons (C.new F (by first | (simp; done) | (simp [adr, adr_append]; done)) hdc) (news_cons (C.new F (by first | (simp; done) | (simp [adr, adr_append]; done)) hdd) (news_cons (C.new F (by first | (simp; done) | (simp [adr, adr_append]; done)) hx.1) (news_cons (C.new F (by first | (simp; done) | (simp [adr, adr_append]; done)) hx.2) (news_cons (C.new F (by first | (simp; done) | (simp [adr, adr_append]; done)) hr.1) (news_cons (C.new F (by first | (simp; done) | (simp [adr, adr_append]; done)) hr.2) (news_cons (C.new F (by first | (simp; done) | (simp [adr, adr_append]; done)) hy.1) (news_cons (C.new F (by first | (simp; done) | (simp [adr, adr_append]; done)) hy.2) (news_cons (C.new F (by first | (simp; done) | (simp [adr, adr_append]; done)) hz.1) (news_cons (C.new F (by first | (simp; done) | (simp [adr, adr_append]; done)) hz.2) news_nil))))))))))) (fun h' tk' F' N' K' => ?_)
  have hT : ∀ b ∈ [c, dc, d, x.x, x.dx, r.x, r.dx, y.x, y.dx, z.x, z.dx], b ∈ c :: dc :: d :: adr (r :: (M9 ++ [z]) ++ x :: y :: []) := by simp [adr, adr_append]
  refine ret _ _ F' (C.reform hk98 K' hT List.perm_middle.symm (N' _ (.head _)).1 (by simp only [firstRef, lastRef, lastRef_append, List.cons_append, List.nil_append]; exact ⟨_, _, _, _, _, _, _, (N' _ (.tail _ (.head _))).1⟩) ((N' _ (.tail _ (.tail _ (.head _)))).1.trans hdd.symm) ?_) (K'.weaken hT)
  have hoM : ∀ b ∈ adr M9, b ∉ [c, dc, d, x.x, x.dx, r.x, r.dx, y.x, y.dx, z.x, z.dx] := off_mid (pre := [c, dc, d, r.x, r.dx]) (post := (z.x :: z.dx :: x.x :: x.dx :: y.x :: y.dx :: [])) (by simpa only [List.cons_append, List.append_assoc, List.nil_append] using hnd) (by simp)
  simp only [Seg, seg_append, firstK_nil, firstK_cons, firstK_append, lastRef, lastRef_append, and_true, and_assoc, List.cons_append]
  exact ⟨⟨(N' _ (.tail _ (.tail _ (.tail _ (.head _))))).1, _, _, _, _, _, _, (N' _ (.tail _ (.tail _ (.tail _ (.tail _ (.head _)))))).1⟩, ⟨(N' _ (.tail _ (.tail _ (.tail _ (.tail _ (.tail _ (.head _))))))).1, _, _, _, _, _, _, (N' _ (.tail _ (.tail _ (.tail _ (.tail _ (.tail _ (.tail _ (.head _)))))))).1⟩, hsM.keep (fun b hb o e => K' b o e (hoM b hb)), ⟨(N' _ (.tail _ (.tail _ (.tail _ (.tail _ (.tail _ (.tail _ (.tail _ (.tail _ (.tail _ (.head _))))))))))).1, _, _, _, _, _, _, (N' _ (.tail _ (.tail _ (.tail _ (.tail _ (.tail _ (.tail _ (.tail _ (.tail _ (.tail _ (.tail _ (.head _)))))))))))).1⟩, ⟨(N' _ (.tail _ (.tail _ (.tail _ (.tail _ (.tail _ (.tail _ (.tail _ (.head _))))))))).1, _, _, _, _, _, _, (N' _ (.tail _ (.tail _ (.tail _ (.tail _ (.tail _ (.tail _ (.tail _ (.tail _ (.head _)))))))))).1⟩⟩
end
end Mine
end
section
theorem Mine.off_Walk7 : True := by w_top off; exact True.intro
set_option maxRecDepth 100000
set_option linter.unusedVariables false
namespace Mine
open PySem PySem.W PySem.Spec PySem.Calls PyProof.Rows
theorem fillG : (PySem.Challenge.rw_bb0035_01 = PySem.Challenge.rw_bb0035_01) ∧ (hd.heap_39 = hd.heap_39) := by k_fill; exact ⟨rfl, rfl⟩

local macro_rules | `(tactic| k_ne) => `(tactic| first | (refine neN ?_; (try dsimp only); first | with_reducible assumption | exact Ne.symm (by with_reducible assumption) | exact ne_of_cls (by k_asm) (by k_mem) (by k_mem) (by dsimp only [tupOf, nodeD, cacheD, dictK, dictOf, instObj, W.listOf]; decide)))
local macro_rules | `(tactic| ktr_enter) => `(tactic| (refine' code_T ?k1 ?k2 ?k3 ?k4 ?k5 ?kA ?kF ?kK ?k6 ?k7 ?k8 ?k9 ?kB ?_ ?c2 ?c3 ?c4 ?c5; (case kA => exact rfl); (case kF => exact rfl); (case kK => assumption); (case k1 => k_asm); (case k2 => k_asm); (case k3 => k_asm); (case k4 => k_asm); (case k5 => k_asm); (case k6 => k_is); (case k7 => k_is); (case k8 => ktr_room); (case k9 => first | exact BindsTo.of_eq rfl | exact binds_K (by k_in) rfl (by k_is) rfl rfl rfl); (case c5 => decide); (case kB => exact locs rfl); (case c2 => exact rfl); (case c3 => exact rfl); (case c4 => exact rfl); k_whole; intro g' L' h' F' N' B' X' T' kk'; (try dsimp only); (try k_fold)))
local macro_rules | `(tactic| k_room) => `(tactic| ktr_room)
local macro_rules | `(tactic| k_units) => `(tactic| ktr_units)
local macro_rules | `(tactic| k_handed) => `(tactic| with_reducible assumption)
local macro_rules | `(tactic| walk_at "subscriptTail") => `(tactic| (k_here; (with_reducible show wpAny _ _ (subscriptTail _ _ (Value.ref _) _) _ _ _); k_dflt (refine' sub_key ?k1 ?k2 ?k3 ?k4 ?k5 ?k6 ?k7 ?k8 ?_; (case k1 => k_asm); (case k2 => k_asm); (case k3 => k_mem); (case k4 => k_asm); (case k5 => k_asm); (case k6 => k_asm); (case k7 => ktr_units); (case k8 => with_unfolding_all rfl); k_whole); intro tk9))
local macro_rules | `(tactic| walk_at "compareOp IsNot") => `(tactic| (k_here; (with_reducible show wpAny _ _ (compareOp CmpOp.IsNot _ Value.none) _ _ _); k_dflt (refine' isNot_key_none ?a ?_; (case a => with_reducible assumption); k_whole)))
local macro_rules | `(tactic| walk_at "compareOp Is") => `(tactic| (k_here; (with_reducible show wpAny _ _ (compareOp CmpOp.Is _ Value.none) _ _ _); k_dflt (refine' is_key_none ?a ?_; (case a => with_reducible assumption); k_whole)))
local macro_rules | `(tactic| walk_at "compareOp Is ref ref") => `(tactic| (k_here; (with_reducible show wpAny _ _ (compareOp CmpOp.Is (Value.ref _) (Value.ref _)) _ _ _); k_dflt (refine' is_ref_ne ?a ?b ?c ?d ?_; (case a => first | with_reducible assumption | exact Ne.symm (by with_reducible assumption)); (case b => first | exact News.get (by k_asm) (by k_mem) | exact Fr.keep (by k_asm) _ _ (by with_reducible assumption)); (case c => first | exact News.get (by k_asm) (by k_mem) | exact Fr.keep (by k_asm) _ _ (by with_reducible assumption)); (case d => intro q9; cases q9); k_whole)))
local macro_rules | `(tactic| walk_at "compareOp In") => `(tactic| (k_here; (with_reducible show wpAny _ _ (compareOp CmpOp.In _ (Value.ref _)) _ _ _); k_dflt (refine' in_keyN ?k1 ?k2 ?k3 ?k4 ?k5 ?k6 ?k7 _ ?k8 ?_; (case k1 => k_asm); (case k2 => k_asm); (case k3 => k_mem); (case k4 => k_asm); (case k5 => k_asm); (case k6 => k_asm); (case k7 => ktr_units); (case k8 => with_reducible assumption); k_whole); intro tk9))
local macro_rules | `(tactic| walk_at "call builtin:len") => `(tactic| (k_here; (with_reducible show wpAny _ _ (call (Value.builtin "len") [Value.ref _]) _ _ _); k_dflt (refine' len_keyN ?k1 ?k2 ?k3 ?k4 ?_; (case k1 => k_asm); (case k2 => k_mem); (case k3 => k_asm); (case k4 => first | with_reducible assumption | (simp only [List.length_append, List.length_cons, List.length_nil]; omega) | omega); k_whole); intro tk8 tk9))
local macro_rules | `(tactic| walk_at "getMethod ref") => `(tactic| (k_here; (with_reducible show wpAny _ _ (getMethod (Value.ref _) (Str.ofString "get") _) _ _ _); k_dflt (refine' methodN ?k1 ?k2 PySem.F.slot_dict_get PySem.F.type_dict_get ?_; (case k1 => k_asm); (case k2 => k_mem); k_whole)))
local macro_rules | `(tactic| walk_at "getMethod ref") => `(tactic| (k_here; (with_reducible show wpAny _ _ (getMethod (Value.ref _) (Str.ofString "pop") _) _ _ _); k_dflt (refine' methodN ?k1 ?k2 PySem.F.slot_dict_pop PySem.F.type_dict_pop ?_; (case k1 => k_asm); (case k2 => k_mem); k_whole)))
local macro_rules | `(tactic| walk_at "getMethod ref") => `(tactic| (k_here; (with_reducible show wpAny _ _ (getMethod (Value.ref _) (Str.ofString "cleanup") _) _ _ _); k_dflt (refine' kmu_own ?k1 ?k2 ?k3 ?k4 ?k5 ?_; (case k1 => k_asm); (case k2 => k_asm); (case k3 => k_inst); (case k4 => k_is); (case k5 => k_is); k_whole)))
local macro_rules | `(tactic| walk_at "call builtin:dict.get") => `(tactic| (k_here; (with_reducible show wpAny _ _ (call (Value.builtin _) [Value.ref _, _, _]) _ _ _); k_dflt (refine' get2_keyN ?k1 ?k2 ?k3 ?k4 ?k5 ?k6 ?k7 ?k8 ?_; (case k1 => k_asm); (case k2 => k_asm); (case k3 => k_mem); (case k4 => k_asm); (case k5 => k_asm); (case k6 => k_asm); (case k7 => ktr_units); (case k8 => k_asm); k_whole); intro tk9; (try dsimp only [Option.getD])))
local macro_rules | `(tactic| walk_at "call builtin:dict.pop") => `(tactic| (k_here; (with_reducible show wpAny _ _ (call (Value.builtin _) [Value.ref _, _]) _ _ _); k_dflt (refine' pop_keyN ?k1 ?k2 ?k3 ?k4 ?k5 ?k6 ?k7 ?k8 ?_; (case k1 => k_asm); (case k2 => k_asm); (case k3 => k_upd); (case k4 => k_asm); (case k5 => k_asm); (case k6 => ktr_units); (case k7 => k_asm); (case k8 => k_asm); k_whole); intro h9 tk9 F' N'; (try k_sweep)))
local macro_rules | `(tactic| walk_at "setItem ref") => `(tactic| (k_here; (with_reducible show wpAny _ _ (setItem (Value.ref _) _ _) _ _ _); k_dflt (refine' setItem_keyN ?k1 ?k2 ?k3 ?k4 ?k5 ?k6 ?k7 ?k8 ?_; (case k1 => k_asm); (case k2 => k_asm); (case k3 => k_upd); (case k4 => k_asm); (case k5 => k_asm); (case k6 => ktr_units); (case k7 => k_asm); (case k8 => k_asm); k_whole); intro h9 tk9 F' N'; (try k_sweep)))

section
variable {prog : Program} {w : World} {p : Program} {loose : List Str} {mean : ExcName → Option Value} {mg mb : Str → Option Value}

set_option maxHeartbeats 4000000 in
theorem has_call {dp un : Nat} {gd : Option (List Code)} {cn : Str} {cs : Scope} {a : Addr} {ccd : Value} {cl : List (Str × Addr)} {outer : List Env} {A₀ : Around} {base h₀ : Heap} {L : Addr} {m : Str → Option Value} {s : Shared} {Q E : Value → Shared → Prop}
    {tc1 tc2 tc3 tc4 tc5 : Tok} {c dc d : Addr} {mx af : Value} {xs : Ents} {n : Nat} {mru lru : Value} {kx : Key} {key : Value} {b : Bool}
    (B : Below A₀ base outer h₀) (F : Fr h₀ L s.heap m) (X : (hd.heap_39 w.params).In h₀) (T : Top p loose mean mg mb h₀) (hk : cs.kind = .function) (hd : dp + 30 < recursionLimit) (hu : un + 300 < cLine) (hn : [c, dc, d].Nodup)
    (hx : Keyed prog w s.heap xs) (hkx : IsKey prog w s.heap kx key) (hlx : (look xs kx).isSome = b) (hd0 : (d == sysModules) = false)
    (N : News h₀ L s.heap [(c, instObj 189 dc),
      (dc, cacheD w.params tc1 tc2 tc3 tc4 tc5 (.ref d) mru lru mx af),
      (d, dictK w xs n)])
    (ret : ∀ h' tk' , Fr h₀ L h' m → News h₀ L h' [(c, instObj 189 dc),
      (dc, cacheD w.params tc1 tc2 tc3 tc4 tc5 (.ref d) mru lru mx af),
      (d, dictK w xs n)] → Keep s.heap h' [c, dc, d] → Q (.bool b) { s with heap := h', toks := tk' }) :
    wpAny (model prog w) (ktrTop dp un gd cn cs L a ccd cl outer) (call (.ref 79) [.ref c, key]) Q E s := by
  have hn0 := hn
  simp only [List.nodup_cons, List.mem_cons, List.not_mem_nil, or_false, not_or, List.nodup_nil, not_false_eq_true, and_true] at hn
  obtain ⟨⟨n_0_1, n_0_2⟩, n_1_2⟩ := hn
  refine wpAny_call ?_
  k_dflt ktr_enter
  rename_i g' L' h' F' N' B' X' T' kk'
  have hc9 : ∀ q9 ∈ ([(c, instObj 189 dc),
      (dc, cacheD w.params tc1 tc2 tc3 tc4 tc5 (.ref d) mru lru mx af),
      (d, dictK w xs n)] : List (Addr × Obj)), q9.2.cls ≠ .type "tuple" := by simp only [List.forall_mem_cons]; simp
  have hx9 := lift_keyed hx kk' N hc9
  have hkx9 := lift_key hkx kk' N hc9
  clear hc9
  k_steps
  all_goals (
    try dsimp only
    try (k_unfold; try dsimp only)
    exact ⟨_, _, _, by assumption, by assumption, fun kF kN kk _ => ret _ _ kF kN kk⟩)

set_option maxHeartbeats 4000000 in
theorem len_call {dp un : Nat} {gd : Option (List Code)} {cn : Str} {cs : Scope} {a : Addr} {ccd : Value} {cl : List (Str × Addr)} {outer : List Env} {A₀ : Around} {base h₀ : Heap} {L : Addr} {m : Str → Option Value} {s : Shared} {Q E : Value → Shared → Prop}
    {tc1 tc2 tc3 tc4 tc5 : Tok} {c dc d : Addr} {mx af : Value} {xs : Ents} {n : Nat} {mru lru : Value}
    (B : Below A₀ base outer h₀) (F : Fr h₀ L s.heap m) (X : (hd.heap_39 w.params).In h₀) (T : Top p loose mean mg mb h₀) (hk : cs.kind = .function) (hd : dp + 30 < recursionLimit) (hu : un + 300 < cLine) (hn : [c, dc, d].Nodup)
    (hx63 : (xs.length : Int) < 2 ^ 63) (hd0 : (d == sysModules) = false)
    (N : News h₀ L s.heap [(c, instObj 189 dc),
      (dc, cacheD w.params tc1 tc2 tc3 tc4 tc5 (.ref d) mru lru mx af),
      (d, dictK w xs n)])
    (ret : ∀ h' tk' tl, Fr h₀ L h' m → News h₀ L h' [(c, instObj 189 dc),
      (dc, cacheD w.params tc1 tc2 tc3 tc4 tc5 (.ref d) mru lru mx af),
      (d, dictK w xs n)] → Keep s.heap h' [c, dc, d] → Q (.int xs.length tl) { s with heap := h', toks := tk' }) :
    wpAny (model prog w) (ktrTop dp un gd cn cs L a ccd cl outer) (call (.ref 93) [.ref c]) Q E s := by
  have hn0 := hn
  simp only [List.nodup_cons, List.mem_cons, List.not_mem_nil, or_false, not_or, List.nodup_nil, not_false_eq_true, and_true] at hn
  obtain ⟨⟨n_0_1, n_0_2⟩, n_1_2⟩ := hn
  refine wpAny_call ?_
  k_dflt ktr_enter
  rename_i g' L' h' F' N' B' X' T' kk'
  k_steps
  all_goals (
    try dsimp only
    try (k_unfold; try dsimp only)
    exact ⟨_, _, _, by assumption, by assumption, fun kF kN kk _ => ret _ _ _ kF kN kk⟩)
end
end Mine
end
section
set_option maxRecDepth 100000
set_option linter.unusedVariables false
namespace Mine
open PySem PySem.W PySem.Spec PySem.Calls PyProof.Rows
section
variable {prog : Program} {w : World} {p : Program} {loose : List Str} {mean : ExcName → Option Value} {mg mb : Str → Option Value}
  {dp un : Nat} {gd : Option (List Code)} {cn : Str} {cs : Scope} {a : Addr} {ccd : Value} {cl : List (Str × Addr)} {outer : List Env} {A₀ : Around} {base h₀ : Heap} {L : Addr} {m : Str → Option Value} {s : Shared} {Q E : Value → Shared → Prop}
  {ow : Addr → Nat} {k : Nat} {M : Int} {gk c dc d : Addr}

theorem C_item {A R : List Rec} {x : Rec} {key : Value}
    (B : Below A₀ base outer h₀) (F : Fr h₀ L s.heap m) (X : (hd.heap_39 w.params).In h₀) (T : Top p loose mean mg mb h₀) (hk : cs.kind = .function) (hd : dp + 20 < recursionLimit) (hu : un + 200 < cLine) (hk98 : k ≠ 98)
    (C : CacheAt prog w s.heap ow k h₀ L M gk c dc d (A ++ x :: R)) (hkx : IsKey prog w s.heap x.key key)
    (ret : ∀ h' tk', Fr h₀ L h' m → CacheAt prog w h' ow k h₀ L M gk c dc d (x :: (A ++ R)) → Keep s.heap h' (c :: dc :: d :: adr (A ++ x :: R)) → Q (.int x.i x.vt) { s with heap := h', toks := tk' }) :
    wpAny (model prog w) (ktrTop dp un gd cn cs L a ccd cl outer) (call (.ref 86) [.ref c, key]) Q E s := by
  rcases A with _ | ⟨r, A⟩
  · exact item_mru B F X T hk hd hu hk98 C hkx ret
  · rcases List.eq_nil_or_concat A with rfl | ⟨M9, z, rfl⟩
    · rcases R with _ | ⟨y, R⟩
      · exact item_last1 B F X T hk hd hu hk98 C hkx ret
      · exact item_mid1 B F X T hk hd hu hk98 C hkx ret
    · rw [List.concat_eq_append] at *
      rcases R with _ | ⟨y, R⟩
      · exact item_last B F X T hk hd hu hk98 C hkx (by rw [List.append_nil] at ret; exact ret)
      · exact item_mid B F X T hk hd hu hk98 C hkx ret
theorem C_get {A R : List Rec} {x : Rec} {key dflt : Value}
    (B : Below A₀ base outer h₀) (F : Fr h₀ L s.heap m) (X : (hd.heap_39 w.params).In h₀) (T : Top p loose mean mg mb h₀) (hk : cs.kind = .function) (hd : dp + 30 < recursionLimit) (hu : un + 300 < cLine) (hk98 : k ≠ 98)
    (C : CacheAt prog w s.heap ow k h₀ L M gk c dc d (A ++ x :: R)) (hkx : IsKey prog w s.heap x.key key)
    (ret : ∀ h' tk', Fr h₀ L h' m → CacheAt prog w h' ow k h₀ L M gk c dc d (x :: (A ++ R)) → Keep s.heap h' (c :: dc :: d :: adr (A ++ x :: R)) → Q (.int x.i x.vt) { s with heap := h', toks := tk' }) :
    wpAny (model prog w) (ktrTop dp un gd cn cs L a ccd cl outer) (call (.ref 116) [.ref c, key, dflt]) Q E s := by
  rcases A with _ | ⟨r, A⟩
  · exact geth_mru B F X T hk hd hu hk98 C hkx ret
  · rcases List.eq_nil_or_concat A with rfl | ⟨M9, z, rfl⟩
    · rcases R with _ | ⟨y, R⟩
      · exact geth_last1 B F X T hk hd hu hk98 C hkx ret
      · rcases List.eq_nil_or_concat R with rfl | ⟨R9, l, rfl⟩
        · exact geth_mid1y B F X T hk hd hu hk98 C hkx ret
        · rw [List.concat_eq_append] at *
          exact geth_mid1 B F X T hk hd hu hk98 C hkx ret
    · rw [List.concat_eq_append] at *
      rcases R with _ | ⟨y, R⟩
      · exact geth_last B F X T hk hd hu hk98 C hkx (by rw [List.append_nil] at ret; exact ret)
      · rcases List.eq_nil_or_concat R with rfl | ⟨R9, l, rfl⟩
        · exact geth_midy B F X T hk hd hu hk98 C hkx ret
        · rw [List.concat_eq_append] at *
          exact geth_mid B F X T hk hd hu hk98 C hkx ret

theorem CacheAt.nd3 {h : Heap} {recs : List Rec} (C : CacheAt prog w h ow k h₀ L M gk c dc d recs) : [c, dc, d].Nodup :=
  List.Sublist.nodup (.cons_cons _ (.cons_cons _ (.cons_cons _ (List.nil_sublist _)))) C.nodup
theorem nodup_sub_len {α : Type} [DecidableEq α] {A B : List α} (h : A.Nodup) (hs : ∀ x ∈ A, x ∈ B) : A.length ≤ B.length := by
  induction A generalizing B with
  | nil => exact Nat.zero_le _
  | cons x A ih =>
    rw [List.nodup_cons] at h
    have := ih (B := B.erase x) h.2 fun y hy => (List.mem_erase_of_ne fun e => h.1 (by rw [← e]; exact hy)).mpr (hs y (.tail _ hy))
    rw [List.length_erase_of_mem (hs x (.head _))] at this
    have := List.length_pos_of_mem (hs x (.head _))
    simp only [List.length_cons]
    omega
/-- the cache's dict holds just the keys of the nodes -/
theorem CacheAt.keysOf_iff {h : Heap} {recs : List Rec} {xs : Ents} (C : CacheAt prog w h ow k h₀ L M gk c dc d recs) (el : xs.length = recs.length) (lk : ∀ r ∈ recs, look xs r.key = some (.ref r.x)) (q : Key) : q ∈ keysOf xs ↔ q ∈ recs.map (·.key) := by
  have hsub : ∀ z ∈ recs.map (·.key), z ∈ keysOf xs := fun z hz => by
    obtain ⟨r, hr, rfl⟩ := List.mem_map.mp hz
    exact look_some_mem (lk r hr)
  refine ⟨fun hq => Classical.byContradiction fun hn => ?_, hsub q⟩
  have := nodup_sub_len (A := q :: recs.map (·.key)) (B := keysOf xs) (List.nodup_cons.mpr ⟨hn, C.nodupK⟩) (fun x hx => by
    rcases List.mem_cons.mp hx with rfl | hx
    · exact hq
    · exact hsub x hx)
  simp only [List.length_cons, List.length_map, keysOf, el] at this
  omega
theorem C_has {recs : List Rec} {q : Key} {key : Value} {b : Bool}
    (B : Below A₀ base outer h₀) (F : Fr h₀ L s.heap m) (X : (hd.heap_39 w.params).In h₀) (T : Top p loose mean mg mb h₀) (hk : cs.kind = .function) (hd : dp + 30 < recursionLimit) (hu : un + 300 < cLine) (hk98 : k ≠ 98)
    (C : CacheAt prog w s.heap ow k h₀ L M gk c dc d recs) (hkx : IsKey prog w s.heap q key) (hb : decide (q ∈ recs.map (·.key)) = b)
    (ret : ∀ h' tk', Fr h₀ L h' m → CacheAt prog w h' ow k h₀ L M gk c dc d recs → Keep s.heap h' (c :: dc :: d :: adr recs) → Q (.bool b) { s with heap := h', toks := tk' }) :
    wpAny (model prog w) (ktrTop dp un gd cn cs L a ccd cl outer) (call (.ref 79) [.ref c, key]) Q E s := by
  obtain ⟨tc1, tc2, tc3, tc4, tc5, tm, ta, hdc⟩ := C.dict
  obtain ⟨xs, n, hdd, hxs, hxo, hxl, hxk⟩ := C.ents
  refine has_call B F X T hk hd hu C.nd3 hxs hkx (b := b) (by rw [look_isSome, ← hb]; exact decide_eq_decide.mpr (C.keysOf_iff hxl hxk q)) C.sysd
    (news_cons (C.new F (by simp) C.inst) (news_cons (C.new F (by simp) hdc) (news_cons (C.new F (by simp) hdd) news_nil))) (fun h' tk' F' N' K' => ?_)
  have hT : ∀ b ∈ [c, dc, d], b ∈ c :: dc :: d :: adr recs := by simp
  exact ret _ _ F' (C.reform hk98 K' hT (.refl _) (N' _ (.head _)).1 ⟨_, _, _, _, _, _, _, (N' _ (.tail _ (.head _))).1⟩ ((N' _ (.tail _ (.tail _ (.head _)))).1.trans hdd.symm) (C.seg.keep fun b hb o e => K' b o e (off_of_nodup (ads := [c, dc, d]) C.nodup b hb))) (K'.weaken hT)
theorem C_miss {recs : List Rec} {q : Key} {key dflt : Value}
    (B : Below A₀ base outer h₀) (F : Fr h₀ L s.heap m) (X : (hd.heap_39 w.params).In h₀) (T : Top p loose mean mg mb h₀) (hk : cs.kind = .function) (hd : dp + 30 < recursionLimit) (hu : un + 300 < cLine) (hk98 : k ≠ 98)
    (C : CacheAt prog w s.heap ow k h₀ L M gk c dc d recs) (hkx : IsKey prog w s.heap q key) (hb : q ∉ recs.map (·.key))
    (ret : ∀ h' tk', Fr h₀ L h' m → CacheAt prog w h' ow k h₀ L M gk c dc d recs → Keep s.heap h' (c :: dc :: d :: adr recs) → Q dflt { s with heap := h', toks := tk' }) :
    wpAny (model prog w) (ktrTop dp un gd cn cs L a ccd cl outer) (call (.ref 116) [.ref c, key, dflt]) Q E s := by
  obtain ⟨tc1, tc2, tc3, tc4, tc5, tm, ta, hdc⟩ := C.dict
  obtain ⟨xs, n, hdd, hxs, hxo, hxl, hxk⟩ := C.ents
  refine get_miss B F X T hk hd hu C.nd3 hxs hkx (look_none_iff.mpr fun hq => hb ((C.keysOf_iff hxl hxk q).mp hq)) C.sysd
    (news_cons (C.new F (by simp) C.inst) (news_cons (C.new F (by simp) hdc) (news_cons (C.new F (by simp) hdd) news_nil))) (fun h' tk' F' N' K' => ?_)
  have hT : ∀ b ∈ [c, dc, d], b ∈ c :: dc :: d :: adr recs := by simp
  exact ret _ _ F' (C.reform hk98 K' hT (.refl _) (N' _ (.head _)).1 ⟨_, _, _, _, _, _, _, (N' _ (.tail _ (.head _))).1⟩ ((N' _ (.tail _ (.tail _ (.head _)))).1.trans hdd.symm) (C.seg.keep fun b hb o e => K' b o e (off_of_nodup (ads := [c, dc, d]) C.nodup b hb))) (K'.weaken hT)
theorem C_len {recs : List Rec}
    (B : Below A₀ base outer h₀) (F : Fr h₀ L s.heap m) (X : (hd.heap_39 w.params).In h₀) (T : Top p loose mean mg mb h₀) (hk : cs.kind = .function) (hd : dp + 30 < recursionLimit) (hu : un + 300 < cLine) (hk98 : k ≠ 98)
    (C : CacheAt prog w s.heap ow k h₀ L M gk c dc d recs)
    (ret : ∀ h' tk' tl, Fr h₀ L h' m → CacheAt prog w h' ow k h₀ L M gk c dc d recs → Keep s.heap h' (c :: dc :: d :: adr recs) → Q (.int recs.length tl) { s with heap := h', toks := tk' }) :
    wpAny (model prog w) (ktrTop dp un gd cn cs L a ccd cl outer) (call (.ref 93) [.ref c]) Q E s := by
  obtain ⟨tc1, tc2, tc3, tc4, tc5, tm, ta, hdc⟩ := C.dict
  obtain ⟨xs, n, hdd, hxs, hxo, hxl, hxk⟩ := C.ents
  have hsm := C.small
  refine len_call B F X T hk hd hu C.nd3 (show (xs.length : Int) < 2 ^ 63 by omega) C.sysd
    (news_cons (C.new F (by simp) C.inst) (news_cons (C.new F (by simp) hdc) (news_cons (C.new F (by simp) hdd) news_nil))) (fun h' tk' tl F' N' K' => ?_)
  have hT : ∀ b ∈ [c, dc, d], b ∈ c :: dc :: d :: adr recs := by simp
  rw [hxl]
  exact ret _ _ _ F' (C.reform hk98 K' hT (.refl _) (N' _ (.head _)).1 ⟨_, _, _, _, _, _, _, (N' _ (.tail _ (.head _))).1⟩ ((N' _ (.tail _ (.tail _ (.head _)))).1.trans hdd.symm) (C.seg.keep fun b hb o e => K' b o e (off_of_nodup (ads := [c, dc, d]) C.nodup b hb))) (K'.weaken hT)
end
end Mine
end
section
theorem Mine.off_Walk4 : True := by w_top off; exact True.intro
set_option maxRecDepth 100000
set_option linter.unusedVariables false
namespace Mine
open PySem PySem.W PySem.Spec PySem.Calls PyProof.Rows
theorem fillD : (PySem.Challenge.rw_bb0035_01 = PySem.Challenge.rw_bb0035_01) ∧ (hd.heap_39 = hd.heap_39) := by k_fill; exact ⟨rfl, rfl⟩

local macro_rules | `(tactic| k_ne) => `(tactic| first | (refine neN ?_; (try dsimp only); first | with_reducible assumption | exact Ne.symm (by with_reducible assumption) | exact ne_of_cls (by k_asm) (by k_mem) (by k_mem) (by dsimp only [tupOf, nodeD, cacheD, dictK, dictOf, instObj, W.listOf]; decide)))
local macro_rules | `(tactic| ktr_enter) => `(tactic| (refine' code_T ?k1 ?k2 ?k3 ?k4 ?k5 ?kA ?kF ?kK ?k6 ?k7 ?k8 ?k9 ?kB ?_ ?c2 ?c3 ?c4 ?c5; (case kA => exact rfl); (case kF => exact rfl); (case kK => assumption); (case k1 => k_asm); (case k2 => k_asm); (case k3 => k_asm); (case k4 => k_asm); (case k5 => k_asm); (case k6 => k_is); (case k7 => k_is); (case k8 => ktr_room); (case k9 => first | exact BindsTo.of_eq rfl | exact binds_K (by k_in) rfl (by k_is) rfl rfl rfl); (case c5 => decide); (case kB => exact locs rfl); (case c2 => exact rfl); (case c3 => exact rfl); (case c4 => exact rfl); k_whole; intro g' L' h' F' N' B' X' T' kk'; (try dsimp only); (try k_fold)))
local macro_rules | `(tactic| k_room) => `(tactic| ktr_room)
local macro_rules | `(tactic| k_units) => `(tactic| ktr_units)
local macro_rules | `(tactic| k_handed) => `(tactic| with_reducible assumption)
local macro_rules | `(tactic| walk_at "subscriptTail") => `(tactic| (k_here; (with_reducible show wpAny _ _ (subscriptTail _ _ (Value.ref _) _) _ _ _); k_dflt (refine' sub_key ?k1 ?k2 ?k3 ?k4 ?k5 ?k6 ?k7 ?k8 ?_; (case k1 => k_asm); (case k2 => k_asm); (case k3 => k_mem); (case k4 => k_asm); (case k5 => k_asm); (case k6 => k_asm); (case k7 => ktr_units); (case k8 => with_unfolding_all rfl); k_whole); intro tk9))
local macro_rules | `(tactic| walk_at "compareOp IsNot") => `(tactic| (k_here; (with_reducible show wpAny _ _ (compareOp CmpOp.IsNot _ Value.none) _ _ _); k_dflt (refine' isNot_key_none ?a ?_; (case a => with_reducible assumption); k_whole)))
local macro_rules | `(tactic| walk_at "compareOp Is") => `(tactic| (k_here; (with_reducible show wpAny _ _ (compareOp CmpOp.Is _ Value.none) _ _ _); k_dflt (refine' is_key_none ?a ?_; (case a => with_reducible assumption); k_whole)))
local macro_rules | `(tactic| walk_at "compareOp Is ref ref") => `(tactic| (k_here; (with_reducible show wpAny _ _ (compareOp CmpOp.Is (Value.ref _) (Value.ref _)) _ _ _); k_dflt (refine' is_ref_ne ?a ?b ?c ?d ?_; (case a => first | with_reducible assumption | exact Ne.symm (by with_reducible assumption)); (case b => first | exact News.get (by k_asm) (by k_mem) | exact Fr.keep (by k_asm) _ _ (by with_reducible assumption)); (case c => first | exact News.get (by k_asm) (by k_mem) | exact Fr.keep (by k_asm) _ _ (by with_reducible assumption)); (case d => intro q9; cases q9); k_whole)))
local macro_rules | `(tactic| walk_at "compareOp In") => `(tactic| (k_here; (with_reducible show wpAny _ _ (compareOp CmpOp.In _ (Value.ref _)) _ _ _); k_dflt (refine' in_keyN ?k1 ?k2 ?k3 ?k4 ?k5 ?k6 ?k7 _ ?k8 ?_; (case k1 => k_asm); (case k2 => k_asm); (case k3 => k_mem); (case k4 => k_asm); (case k5 => k_asm); (case k6 => k_asm); (case k7 => ktr_units); (case k8 => with_reducible assumption); k_whole); intro tk9))
local macro_rules | `(tactic| walk_at "call builtin:len") => `(tactic| (k_here; (with_reducible show wpAny _ _ (call (Value.builtin "len") [Value.ref _]) _ _ _); k_dflt (refine' len_keyN ?k1 ?k2 ?k3 ?k4 ?_; (case k1 => k_asm); (case k2 => k_mem); (case k3 => k_asm); (case k4 => first | with_reducible assumption | (simp only [List.length_append, List.length_cons, List.length_nil]; omega) | omega); k_whole); intro tk8 tk9))
local macro_rules | `(tactic| walk_at "getMethod ref") => `(tactic| (k_here; (with_reducible show wpAny _ _ (getMethod (Value.ref _) (Str.ofString "get") _) _ _ _); k_dflt (refine' methodN ?k1 ?k2 PySem.F.slot_dict_get PySem.F.type_dict_get ?_; (case k1 => k_asm); (case k2 => k_mem); k_whole)))
local macro_rules | `(tactic| walk_at "getMethod ref") => `(tactic| (k_here; (with_reducible show wpAny _ _ (getMethod (Value.ref _) (Str.ofString "pop") _) _ _ _); k_dflt (refine' methodN ?k1 ?k2 PySem.F.slot_dict_pop PySem.F.type_dict_pop ?_; (case k1 => k_asm); (case k2 => k_mem); k_whole)))
local macro_rules | `(tactic| walk_at "getMethod ref") => `(tactic| (k_here; (with_reducible show wpAny _ _ (getMethod (Value.ref _) (Str.ofString "cleanup") _) _ _ _); k_dflt (refine' kmu_own ?k1 ?k2 ?k3 ?k4 ?k5 ?_; (case k1 => k_asm); (case k2 => k_asm); (case k3 => k_inst); (case k4 => k_is); (case k5 => k_is); k_whole)))
local macro_rules | `(tactic| walk_at "call builtin:dict.get") => `(tactic| (k_here; (with_reducible show wpAny _ _ (call (Value.builtin _) [Value.ref _, _, _]) _ _ _); k_dflt (refine' get2_keyN ?k1 ?k2 ?k3 ?k4 ?k5 ?k6 ?k7 ?k8 ?_; (case k1 => k_asm); (case k2 => k_asm); (case k3 => k_mem); (case k4 => k_asm); (case k5 => k_asm); (case k6 => k_asm); (case k7 => ktr_units); (case k8 => k_asm); k_whole); intro tk9; (try dsimp only [Option.getD])))
local macro_rules | `(tactic| walk_at "call builtin:dict.pop") => `(tactic| (k_here; (with_reducible show wpAny _ _ (call (Value.builtin _) [Value.ref _, _]) _ _ _); k_dflt (refine' pop_keyN ?k1 ?k2 ?k3 ?k4 ?k5 ?k6 ?k7 ?k8 ?_; (case k1 => k_asm); (case k2 => k_asm); (case k3 => k_upd); (case k4 => k_asm); (case k5 => k_asm); (case k6 => ktr_units); (case k7 => k_asm); (case k8 => k_asm); k_whole); intro h9 tk9 F' N'; (try k_sweep)))
local macro_rules | `(tactic| walk_at "setItem ref") => `(tactic| (k_here; (with_reducible show wpAny _ _ (setItem (Value.ref _) _ _) _ _ _); k_dflt (refine' setItem_keyN ?k1 ?k2 ?k3 ?k4 ?k5 ?k6 ?k7 ?k8 ?_; (case k1 => k_asm); (case k2 => k_asm); (case k3 => k_upd); (case k4 => k_asm); (case k5 => k_asm); (case k6 => ktr_units); (case k7 => k_asm); (case k8 => k_asm); k_whole); intro h9 tk9 F' N'; (try k_sweep)))

local macro_rules | `(tactic| walk_at "callWith ref") => `(tactic| (k_here; (with_reducible show wpAny _ _ (callWith _ (Value.ref _) _ _ _) _ _ _); k_dflt (refine' callWith_fn ?a ?b ?_ ?c ?d; (case a => with_reducible assumption); (case b => rfl); (case c => rfl); (case d => rfl); k_whole)))
local macro_rules | `(tactic| walk_at "And") => `(tactic| ((with_reducible show (Heap.get? _ _ = some _) ∧ _); refine ⟨Fr.keep (by k_asm) _ _ (by with_reducible assumption), ?_⟩; (try dsimp only [List.nil_append, List.cons_append])))
local macro_rules | `(tactic| walk_at "call ref") => `(tactic| ((with_reducible show wpAny _ _ (call (Value.ref _) _) _ _ _); refine Hold.intro ?_))

section
variable {prog : Program} {w : World} {p : Program} {loose : List Str} {mean : ExcName → Option Value} {mg mb : Str → Option Value}

set_option maxHeartbeats 4000000 in
theorem rc {dp un : Nat} {gd : Option (List Code)} {cn : Str} {cs : Scope} {a : Addr} {ccd : Value} {cl : List (Str × Addr)} {outer : List Env} {A₀ : Around} {base h₀ : Heap} {L : Addr} {m : Str → Option Value} {s : Shared} {Q E : Value → Shared → Prop}
    {tl1 tl2 tl3 tl4 tl5 tl6 : Tok} {l dl : Addr} {lp ln lk lv : Value} {f gk c2 cg ck lg : Addr} {k : Int} {qual : Str} {pm ctv : Value} {gs : List Value} {its : Array Value} {ng : Nat}
    (B : Below A₀ base outer h₀) (F : Fr h₀ L s.heap m) (X : (hd.heap_39 w.params).In h₀) (T : Top p loose mean mg mb h₀) (hk : cs.kind = .function) (hd : dp + 15 < recursionLimit) (hu : un + 200 < cLine) (hn : [l, dl, gk, f, c2, cg, ck, lg].Nodup)
    (tl : TellerAt s.heap f k gk qual pm ctv c2 cg ck lg gs) (hsz : its.size ≤ sizeLine) (hhl : handedIn lk = true) (hhv : handedIn lv = true)
    (N : News h₀ L s.heap [(l, instObj 53 dl),
      (dl, nodeD w.params tl1 tl2 tl3 tl4 tl5 tl6 lp ln lk lv (.ref f)),
      (gk, listOf its ng)])
    (ret : ∀ h' tk' (t : Addr), Fr h₀ L h' m → News h₀ L h' [(t, tupOf [lk, lv]),
      (gk, listOf (its.push (.ref t)) (ng + 1)),
      (l, instObj 53 dl),
      (dl, nodeD w.params tl1 tl2 tl3 tl4 tl5 tl6 lp ln lk .none .none)] → Keep s.heap h' [l, dl, gk] → NewIn s.heap [(t, tupOf [lk, lv]),
      (gk, listOf (its.push (.ref t)) (ng + 1)),
      (l, instObj 53 dl),
      (dl, nodeD w.params tl1 tl2 tl3 tl4 tl5 tl6 lp ln lk .none .none)] [l, dl, gk] → Q .none { s with heap := h', toks := tk' }) :
    wpAny (model prog w) (ktrTop dp un gd cn cs L a ccd cl outer) (call (.ref 50) [.ref l]) Q E s := by
  have hn0 := hn
  simp only [List.nodup_cons, List.mem_cons, List.not_mem_nil, or_false, not_or, List.nodup_nil, not_false_eq_true, and_true] at hn
  obtain ⟨⟨n_0_1, n_0_2, n_0_3, n_0_4, n_0_5, n_0_6, n_0_7⟩, ⟨n_1_2, n_1_3, n_1_4, n_1_5, n_1_6, n_1_7⟩, ⟨n_2_3, n_2_4, n_2_5, n_2_6, n_2_7⟩, ⟨n_3_4, n_3_5, n_3_6, n_3_7⟩, ⟨n_4_5, n_4_6, n_4_7⟩, ⟨n_5_6, n_5_7⟩, n_6_7⟩ := hn
  refine wpAny_call ?_
  k_dflt ktr_enter
  rename_i g' L' h' F' N' B' X' T' kk'
  have hc9 : ∀ q9 ∈ ([(l, instObj 53 dl),
      (dl, nodeD w.params tl1 tl2 tl3 tl4 tl5 tl6 lp ln lk lv (.ref f)),
      (gk, listOf its ng)] : List (Addr × Obj)), q9.2.cls ≠ .type "tuple" := by simp only [List.forall_mem_cons]; simp
  have tl9 := tl.lift kk' (off_of_nodup (ads := [l, dl, gk]) hn0)
  have hfn9 := tl9.fn
  clear hc9
  k_steps
  unfold held
  (rename Fr _ _ _ _ => F8); (rename News _ _ _ _ => N8)
  k_dflt (refine lam_call B' F8 X' T' rfl (by first | omega | (dsimp only [ktrTop, Around.deeper]; omega) | (show _ + 1 + _ < _; omega)) (by first | omega | (dsimp only [ktrTop, Around.deeper]; omega) | (show _ + 1 + _ < _; omega)) (tl9.keeps F8.keep) (off_of_nodup (ads := [gk]) (rd := [f, c2, cg, ck, lg]) (by have := (List.nodup_append.mp (show ([l, dl] ++ [gk, f, c2, cg, ck, lg]).Nodup from hn0)).2.1; exact this)) hsz (news_sub (sub := [(gk, listOf its ng)]) N8 (by simp)) (fun h8 tk8 t F9 N9 K9 Z9 => ?_))
  have N9 := news_app N9 N8 K9 (rest := [(l, instObj 53 dl), (dl, nodeD w.params tl1 tl2 tl3 tl4 tl5 tl6 lp ln lk lv (.ref f))]) (by simp) (List.forall_mem_cons.mpr ⟨(by simp only [List.mem_cons, List.not_mem_nil, or_false, not_or]; (repeat' apply And.intro) <;> first | assumption | exact Ne.symm (by assumption)), (List.forall_mem_cons.mpr ⟨(by simp only [List.mem_cons, List.not_mem_nil, or_false, not_or]; (repeat' apply And.intro) <;> first | assumption | exact Ne.symm (by assumption)), (List.forall_mem_nil _)⟩)⟩)
  simp only [List.cons_append, List.nil_append] at N9
  have ht1 : t ≠ l := ne_of_new Z9 (.head _) (N8 (l, instObj 53 dl) (by simp)).1 (by simp only [List.mem_cons, List.not_mem_nil, or_false]; exact n_0_2)
  have ht2 : t ≠ dl := ne_of_new Z9 (.head _) (N8 (dl, nodeD w.params tl1 tl2 tl3 tl4 tl5 tl6 lp ln lk lv (.ref f)) (by simp)).1 (by simp only [List.mem_cons, List.not_mem_nil, or_false]; exact n_1_2)
  clear F8 N8
  try dsimp only
  k_steps
  all_goals (
    try dsimp only
    try (k_unfold; try dsimp only)
    exact ⟨_, _, _, by assumption, by assumption, fun kF kN kk kf => ret _ _ _ kF kN kk kf⟩)

set_option maxHeartbeats 4000000 in
theorem rn {dp un : Nat} {gd : Option (List Code)} {cn : Str} {cs : Scope} {a : Addr} {ccd : Value} {cl : List (Str × Addr)} {outer : List Env} {A₀ : Around} {base h₀ : Heap} {L : Addr} {m : Str → Option Value} {s : Shared} {Q E : Value → Shared → Prop}
    {tc1 tc2 tc3 tc4 tc5 : Tok} {tl1 tl2 tl3 tl4 tl5 tl6 tz1 tz2 tz3 tz4 tz5 tz6 : Tok} {c dc d : Addr} {mx af : Value} {xs : Ents} {n : Nat} {mru : Value} {z dz : Addr} {zp zn zk zv zc : Value} {l dl : Addr} {lk lv : Value} {kl : Key} {f gk c2 cg ck lg : Addr} {k : Int} {qual : Str} {pm ctv : Value} {gs : List Value} {its : Array Value} {ng : Nat}
    (B : Below A₀ base outer h₀) (F : Fr h₀ L s.heap m) (X : (hd.heap_39 w.params).In h₀) (T : Top p loose mean mg mb h₀) (hk : cs.kind = .function) (hd : dp + 25 < recursionLimit) (hu : un + 300 < cLine) (hn : [c, dc, d, l, dl, z, dz, gk, f, c2, cg, ck, lg].Nodup)
    (tl : TellerAt s.heap f k gk qual pm ctv c2 cg ck lg gs) (hsz : its.size ≤ sizeLine) (hx : Keyed prog w s.heap xs) (hkl : IsKey prog w s.heap kl lk) (hll : look xs kl = some (.ref l)) (hxs : xs.length ≤ sizeLine) (hhl : handedIn lk = true) (hhv : handedIn lv = true)
    (N : News h₀ L s.heap [(c, instObj 189 dc),
      (dc, cacheD w.params tc1 tc2 tc3 tc4 tc5 (.ref d) mru (.ref l) mx af),
      (d, dictK w xs n),
      (l, instObj 53 dl),
      (dl, nodeD w.params tl1 tl2 tl3 tl4 tl5 tl6 (.ref z) .none lk lv (.ref f)),
      (z, instObj 53 dz),
      (dz, nodeD w.params tz1 tz2 tz3 tz4 tz5 tz6 zp zn zk zv zc),
      (gk, listOf its ng)])
    (ret : ∀ h' tk' (t : Addr), Fr h₀ L h' m → News h₀ L h' [(t, tupOf [lk, lv]),
      (gk, listOf (its.push (.ref t)) (ng + 1)),
      (l, instObj 53 dl),
      (dl, nodeD w.params tl1 tl2 tl3 tl4 tl5 tl6 .none .none lk .none .none),
      (c, instObj 189 dc),
      (dc, cacheD w.params tc1 tc2 tc3 tc4 tc5 (.ref d) mru (.ref z) mx af),
      (d, dictK w (dropK xs kl) (n + 1)),
      (z, instObj 53 dz),
      (dz, nodeD w.params tz1 tz2 tz3 tz4 tz5 tz6 zp .none zk zv zc)] → Keep s.heap h' [c, dc, d, l, dl, z, dz, gk] → NewIn s.heap [(t, tupOf [lk, lv]),
      (gk, listOf (its.push (.ref t)) (ng + 1)),
      (l, instObj 53 dl),
      (dl, nodeD w.params tl1 tl2 tl3 tl4 tl5 tl6 .none .none lk .none .none),
      (c, instObj 189 dc),
      (dc, cacheD w.params tc1 tc2 tc3 tc4 tc5 (.ref d) mru (.ref z) mx af),
      (d, dictK w (dropK xs kl) (n + 1)),
      (z, instObj 53 dz),
      (dz, nodeD w.params tz1 tz2 tz3 tz4 tz5 tz6 zp .none zk zv zc)] [c, dc, d, l, dl, z, dz, gk] → Q .none { s with heap := h', toks := tk' }) :
    wpAny (model prog w) (ktrTop dp un gd cn cs L a ccd cl outer) (call (.ref 156) [.ref c, .ref l]) Q E s := by
  have hn0 := hn
  simp only [List.nodup_cons, List.mem_cons, List.not_mem_nil, or_false, not_or, List.nodup_nil, not_false_eq_true, and_true] at hn
  obtain ⟨⟨n_0_1, n_0_2, n_0_3, n_0_4, n_0_5, n_0_6, n_0_7, n_0_8, n_0_9, n_0_10, n_0_11, n_0_12⟩, ⟨n_1_2, n_1_3, n_1_4, n_1_5, n_1_6, n_1_7, n_1_8, n_1_9, n_1_10, n_1_11, n_1_12⟩, ⟨n_2_3, n_2_4, n_2_5, n_2_6, n_2_7, n_2_8, n_2_9, n_2_10, n_2_11, n_2_12⟩, ⟨n_3_4, n_3_5, n_3_6, n_3_7, n_3_8, n_3_9, n_3_10, n_3_11, n_3_12⟩, ⟨n_4_5, n_4_6, n_4_7, n_4_8, n_4_9, n_4_10, n_4_11, n_4_12⟩, ⟨n_5_6, n_5_7, n_5_8, n_5_9, n_5_10, n_5_11, n_5_12⟩, ⟨n_6_7, n_6_8, n_6_9, n_6_10, n_6_11, n_6_12⟩, ⟨n_7_8, n_7_9, n_7_10, n_7_11, n_7_12⟩, ⟨n_8_9, n_8_10, n_8_11, n_8_12⟩, ⟨n_9_10, n_9_11, n_9_12⟩, ⟨n_10_11, n_10_12⟩, n_11_12⟩ := hn
  refine wpAny_call ?_
  k_dflt ktr_enter
  rename_i g' L' h' F' N' B' X' T' kk'
  have hc9 : ∀ q9 ∈ ([(c, instObj 189 dc),
      (dc, cacheD w.params tc1 tc2 tc3 tc4 tc5 (.ref d) mru (.ref l) mx af),
      (d, dictK w xs n),
      (l, instObj 53 dl),
      (dl, nodeD w.params tl1 tl2 tl3 tl4 tl5 tl6 (.ref z) .none lk lv (.ref f)),
      (z, instObj 53 dz),
      (dz, nodeD w.params tz1 tz2 tz3 tz4 tz5 tz6 zp zn zk zv zc),
      (gk, listOf its ng)] : List (Addr × Obj)), q9.2.cls ≠ .type "tuple" := by simp only [List.forall_mem_cons]; simp
  have hx9 := lift_keyed hx kk' N hc9
  have hkl9 := lift_key hkl kk' N hc9
  have tl9 := tl.lift kk' (off_of_nodup (ads := [c, dc, d, l, dl, z, dz, gk]) hn0)
  have hfn9 := tl9.fn
  clear hc9
  k_steps
  unfold held
  (rename Fr _ _ _ _ => F8); (rename News _ _ _ _ => N8)
  k_dflt (refine rc B' F8 X' T' rfl (by first | omega | (dsimp only [ktrTop, Around.deeper]; omega) | (show _ + 1 + _ < _; omega)) (by first | omega | (dsimp only [ktrTop, Around.deeper]; omega) | (show _ + 1 + _ < _; omega)) (by simp only [List.nodup_cons, List.mem_cons, List.not_mem_nil, or_false, not_or, List.nodup_nil, not_false_eq_true, and_true]; (repeat' apply And.intro) <;> first | assumption | exact Ne.symm (by assumption)) (tl9.keeps F8.keep) hsz hhl hhv (news_sub (sub := [(l, instObj 53 dl), (dl, nodeD w.params tl1 tl2 tl3 tl4 tl5 tl6 (.ref z) .none lk lv (.ref f)), (gk, listOf its ng)]) N8 (by simp)) (fun h8 tk8 t F9 N9 K9 Z9 => ?_))
  have N9 := news_app N9 N8 K9 (rest := [(c, instObj 189 dc), (dc, cacheD w.params tc1 tc2 tc3 tc4 tc5 (.ref d) mru (.ref z) mx af), (d, dictK w (dropK xs kl) (n + 1)), (z, instObj 53 dz), (dz, nodeD w.params tz1 tz2 tz3 tz4 tz5 tz6 zp zn zk zv zc)]) (by simp) (List.forall_mem_cons.mpr ⟨(by simp only [List.mem_cons, List.not_mem_nil, or_false, not_or]; (repeat' apply And.intro) <;> first | assumption | exact Ne.symm (by assumption)), (List.forall_mem_cons.mpr ⟨(by simp only [List.mem_cons, List.not_mem_nil, or_false, not_or]; (repeat' apply And.intro) <;> first | assumption | exact Ne.symm (by assumption)), (List.forall_mem_cons.mpr ⟨(by simp only [List.mem_cons, List.not_mem_nil, or_false, not_or]; (repeat' apply And.intro) <;> first | assumption | exact Ne.symm (by assumption)), (List.forall_mem_cons.mpr ⟨(by simp only [List.mem_cons, List.not_mem_nil, or_false, not_or]; (repeat' apply And.intro) <;> first | assumption | exact Ne.symm (by assumption)), (List.forall_mem_cons.mpr ⟨(by simp only [List.mem_cons, List.not_mem_nil, or_false, not_or]; (repeat' apply And.intro) <;> first | assumption | exact Ne.symm (by assumption)), (List.forall_mem_nil _)⟩)⟩)⟩)⟩)⟩)
  simp only [List.cons_append, List.nil_append] at N9
  try clear F8 N8
  try dsimp only
  k_steps
  all_goals (
    try dsimp only
    try (k_unfold; try dsimp only)
    exact ⟨_, _, _, by assumption, by assumption, fun kF kN kk kf => ret _ _ _ kF kN kk kf⟩)
end
end Mine
end
section
theorem Mine.off_Walk5 : True := by w_top off; exact True.intro
set_option maxRecDepth 100000
set_option linter.unusedVariables false
namespace Mine
open PySem PySem.W PySem.Spec PySem.Calls PyProof.Rows
theorem fillE : (PySem.Challenge.rw_bb0035_01 = PySem.Challenge.rw_bb0035_01) ∧ (hd.heap_39 = hd.heap_39) := by k_fill; exact ⟨rfl, rfl⟩

local macro_rules | `(tactic| k_ne) => `(tactic| first | (refine neN ?_; (try dsimp only); first | with_reducible assumption | exact Ne.symm (by with_reducible assumption) | exact ne_of_cls (by k_asm) (by k_mem) (by k_mem) (by dsimp only [tupOf, nodeD, cacheD, dictK, dictOf, instObj, W.listOf]; decide)))
local macro_rules | `(tactic| ktr_enter) => `(tactic| (refine' code_T ?k1 ?k2 ?k3 ?k4 ?k5 ?kA ?kF ?kK ?k6 ?k7 ?k8 ?k9 ?kB ?_ ?c2 ?c3 ?c4 ?c5; (case kA => exact rfl); (case kF => exact rfl); (case kK => assumption); (case k1 => k_asm); (case k2 => k_asm); (case k3 => k_asm); (case k4 => k_asm); (case k5 => k_asm); (case k6 => k_is); (case k7 => k_is); (case k8 => ktr_room); (case k9 => first | exact BindsTo.of_eq rfl | exact binds_K (by k_in) rfl (by k_is) rfl rfl rfl); (case c5 => decide); (case kB => exact locs rfl); (case c2 => exact rfl); (case c3 => exact rfl); (case c4 => exact rfl); k_whole; intro g' L' h' F' N' B' X' T' kk'; (try dsimp only); (try k_fold)))
local macro_rules | `(tactic| k_room) => `(tactic| ktr_room)
local macro_rules | `(tactic| k_units) => `(tactic| ktr_units)
local macro_rules | `(tactic| k_handed) => `(tactic| with_reducible assumption)
local macro_rules | `(tactic| walk_at "subscriptTail") => `(tactic| (k_here; (with_reducible show wpAny _ _ (subscriptTail _ _ (Value.ref _) _) _ _ _); k_dflt (refine' sub_key ?k1 ?k2 ?k3 ?k4 ?k5 ?k6 ?k7 ?k8 ?_; (case k1 => k_asm); (case k2 => k_asm); (case k3 => k_mem); (case k4 => k_asm); (case k5 => k_asm); (case k6 => k_asm); (case k7 => ktr_units); (case k8 => with_unfolding_all rfl); k_whole); intro tk9))
local macro_rules | `(tactic| walk_at "compareOp IsNot") => `(tactic| (k_here; (with_reducible show wpAny _ _ (compareOp CmpOp.IsNot _ Value.none) _ _ _); k_dflt (refine' isNot_key_none ?a ?_; (case a => with_reducible assumption); k_whole)))
local macro_rules | `(tactic| walk_at "compareOp Is") => `(tactic| (k_here; (with_reducible show wpAny _ _ (compareOp CmpOp.Is _ Value.none) _ _ _); k_dflt (refine' is_key_none ?a ?_; (case a => with_reducible assumption); k_whole)))
local macro_rules | `(tactic| walk_at "compareOp Is ref ref") => `(tactic| (k_here; (with_reducible show wpAny _ _ (compareOp CmpOp.Is (Value.ref _) (Value.ref _)) _ _ _); k_dflt (refine' is_ref_ne ?a ?b ?c ?d ?_; (case a => first | with_reducible assumption | exact Ne.symm (by with_reducible assumption)); (case b => first | exact News.get (by k_asm) (by k_mem) | exact Fr.keep (by k_asm) _ _ (by with_reducible assumption)); (case c => first | exact News.get (by k_asm) (by k_mem) | exact Fr.keep (by k_asm) _ _ (by with_reducible assumption)); (case d => intro q9; cases q9); k_whole)))
local macro_rules | `(tactic| walk_at "compareOp In") => `(tactic| (k_here; (with_reducible show wpAny _ _ (compareOp CmpOp.In _ (Value.ref _)) _ _ _); k_dflt (refine' in_keyN ?k1 ?k2 ?k3 ?k4 ?k5 ?k6 ?k7 _ ?k8 ?_; (case k1 => k_asm); (case k2 => k_asm); (case k3 => k_mem); (case k4 => k_asm); (case k5 => k_asm); (case k6 => k_asm); (case k7 => ktr_units); (case k8 => with_reducible assumption); k_whole); intro tk9))
local macro_rules | `(tactic| walk_at "call builtin:len") => `(tactic| (k_here; (with_reducible show wpAny _ _ (call (Value.builtin "len") [Value.ref _]) _ _ _); k_dflt (refine' len_keyN ?k1 ?k2 ?k3 ?k4 ?_; (case k1 => k_asm); (case k2 => k_mem); (case k3 => k_asm); (case k4 => first | with_reducible assumption | (simp only [List.length_append, List.length_cons, List.length_nil]; omega) | omega); k_whole); intro tk8 tk9))
local macro_rules | `(tactic| walk_at "getMethod ref") => `(tactic| (k_here; (with_reducible show wpAny _ _ (getMethod (Value.ref _) (Str.ofString "get") _) _ _ _); k_dflt (refine' methodN ?k1 ?k2 PySem.F.slot_dict_get PySem.F.type_dict_get ?_; (case k1 => k_asm); (case k2 => k_mem); k_whole)))
local macro_rules | `(tactic| walk_at "getMethod ref") => `(tactic| (k_here; (with_reducible show wpAny _ _ (getMethod (Value.ref _) (Str.ofString "pop") _) _ _ _); k_dflt (refine' methodN ?k1 ?k2 PySem.F.slot_dict_pop PySem.F.type_dict_pop ?_; (case k1 => k_asm); (case k2 => k_mem); k_whole)))
local macro_rules | `(tactic| walk_at "getMethod ref") => `(tactic| (k_here; (with_reducible show wpAny _ _ (getMethod (Value.ref _) (Str.ofString "cleanup") _) _ _ _); k_dflt (refine' kmu_own ?k1 ?k2 ?k3 ?k4 ?k5 ?_; (case k1 => k_asm); (case k2 => k_asm); (case k3 => k_inst); (case k4 => k_is); (case k5 => k_is); k_whole)))
local macro_rules | `(tactic| walk_at "call builtin:dict.get") => `(tactic| (k_here; (with_reducible show wpAny _ _ (call (Value.builtin _) [Value.ref _, _, _]) _ _ _); k_dflt (refine' get2_keyN ?k1 ?k2 ?k3 ?k4 ?k5 ?k6 ?k7 ?k8 ?_; (case k1 => k_asm); (case k2 => k_asm); (case k3 => k_mem); (case k4 => k_asm); (case k5 => k_asm); (case k6 => k_asm); (case k7 => ktr_units); (case k8 => k_asm); k_whole); intro tk9; (try dsimp only [Option.getD])))
local macro_rules | `(tactic| walk_at "call builtin:dict.pop") => `(tactic| (k_here; (with_reducible show wpAny _ _ (call (Value.builtin _) [Value.ref _, _]) _ _ _); k_dflt (refine' pop_keyN ?k1 ?k2 ?k3 ?k4 ?k5 ?k6 ?k7 ?k8 ?_; (case k1 => k_asm); (case k2 => k_asm); (case k3 => k_upd); (case k4 => k_asm); (case k5 => k_asm); (case k6 => ktr_units); (case k7 => k_asm); (case k8 => k_asm); k_whole); intro h9 tk9 F' N'; (try k_sweep)))
local macro_rules | `(tactic| walk_at "setItem ref") => `(tactic| (k_here; (with_reducible show wpAny _ _ (setItem (Value.ref _) _ _) _ _ _); k_dflt (refine' setItem_keyN ?k1 ?k2 ?k3 ?k4 ?k5 ?k6 ?k7 ?k8 ?_; (case k1 => k_asm); (case k2 => k_asm); (case k3 => k_upd); (case k4 => k_asm); (case k5 => k_asm); (case k6 => ktr_units); (case k7 => k_asm); (case k8 => k_asm); k_whole); intro h9 tk9 F' N'; (try k_sweep)))

local macro_rules | `(tactic| walk_at "callWith ref") => `(tactic| (k_here; (with_reducible show wpAny _ _ (callWith _ (Value.ref _) _ _ _) _ _ _); k_dflt (refine' callWith_fn ?a ?b ?_ ?c ?d; (case a => with_reducible assumption); (case b => rfl); (case c => rfl); (case d => rfl); k_whole)))
local macro_rules | `(tactic| walk_at "And") => `(tactic| ((with_reducible show (Heap.get? _ _ = some _) ∧ _); refine ⟨Fr.keep (by k_asm) _ _ (by with_reducible assumption), ?_⟩; (try dsimp only [List.nil_append, List.cons_append])))

local macro_rules | `(tactic| walk_at "WhlIf") => `(tactic| first | refine WhlIf.yes (decide_eq_true (by first | with_reducible assumption | omega)) ?_ | refine WhlIf.no (decide_eq_false (by omega)) ?_)
local macro_rules | `(tactic| walk_at "call ref") => `(tactic| ((with_reducible show wpAny _ _ (call (Value.ref 163) _) _ _ _); refine Hold.intro ?_))
local macro_rules | `(tactic| walk_at "call ref") => `(tactic| ((with_reducible show wpAny _ _ (call (Value.ref 156) _) _ _ _); refine Hold.intro ?_))

section
variable {prog : Program} {w : World} {p : Program} {loose : List Str} {mean : ExcName → Option Value} {mg mb : Str → Option Value}

set_option maxHeartbeats 4000000 in
theorem rl {dp un : Nat} {gd : Option (List Code)} {cn : Str} {cs : Scope} {a : Addr} {ccd : Value} {cl : List (Str × Addr)} {outer : List Env} {A₀ : Around} {base h₀ : Heap} {L : Addr} {m : Str → Option Value} {s : Shared} {Q E : Value → Shared → Prop}
    {tc1 tc2 tc3 tc4 tc5 : Tok} {tl1 tl2 tl3 tl4 tl5 tl6 tz1 tz2 tz3 tz4 tz5 tz6 : Tok} {c dc d : Addr} {mx af : Value} {xs : Ents} {n : Nat} {mru : Value} {z dz : Addr} {zp zn zk zv zc : Value} {l dl : Addr} {lk lv : Value} {kl : Key} {f gk c2 cg ck lg : Addr} {k : Int} {qual : Str} {pm ctv : Value} {gs : List Value} {its : Array Value} {ng : Nat}
    (B : Below A₀ base outer h₀) (F : Fr h₀ L s.heap m) (X : (hd.heap_39 w.params).In h₀) (T : Top p loose mean mg mb h₀) (hk : cs.kind = .function) (hd : dp + 35 < recursionLimit) (hu : un + 400 < cLine) (hn : [c, dc, d, l, dl, z, dz, gk, f, c2, cg, ck, lg].Nodup)
    (tl : TellerAt s.heap f k gk qual pm ctv c2 cg ck lg gs) (hsz : its.size ≤ sizeLine) (hx : Keyed prog w s.heap xs) (hkl : IsKey prog w s.heap kl lk) (hll : look xs kl = some (.ref l)) (hxs : xs.length ≤ sizeLine) (hhl : handedIn lk = true) (hhv : handedIn lv = true)
    (N : News h₀ L s.heap [(c, instObj 189 dc),
      (dc, cacheD w.params tc1 tc2 tc3 tc4 tc5 (.ref d) mru (.ref l) mx af),
      (d, dictK w xs n),
      (l, instObj 53 dl),
      (dl, nodeD w.params tl1 tl2 tl3 tl4 tl5 tl6 (.ref z) .none lk lv (.ref f)),
      (z, instObj 53 dz),
      (dz, nodeD w.params tz1 tz2 tz3 tz4 tz5 tz6 zp zn zk zv zc),
      (gk, listOf its ng)])
    (ret : ∀ h' tk' (t : Addr), Fr h₀ L h' m → News h₀ L h' [(t, tupOf [lk, lv]),
      (gk, listOf (its.push (.ref t)) (ng + 1)),
      (l, instObj 53 dl),
      (dl, nodeD w.params tl1 tl2 tl3 tl4 tl5 tl6 .none .none lk .none .none),
      (c, instObj 189 dc),
      (dc, cacheD w.params tc1 tc2 tc3 tc4 tc5 (.ref d) mru (.ref z) mx af),
      (d, dictK w (dropK xs kl) (n + 1)),
      (z, instObj 53 dz),
      (dz, nodeD w.params tz1 tz2 tz3 tz4 tz5 tz6 zp .none zk zv zc)] → Keep s.heap h' [c, dc, d, l, dl, z, dz, gk] → NewIn s.heap [(t, tupOf [lk, lv]),
      (gk, listOf (its.push (.ref t)) (ng + 1)),
      (l, instObj 53 dl),
      (dl, nodeD w.params tl1 tl2 tl3 tl4 tl5 tl6 .none .none lk .none .none),
      (c, instObj 189 dc),
      (dc, cacheD w.params tc1 tc2 tc3 tc4 tc5 (.ref d) mru (.ref z) mx af),
      (d, dictK w (dropK xs kl) (n + 1)),
      (z, instObj 53 dz),
      (dz, nodeD w.params tz1 tz2 tz3 tz4 tz5 tz6 zp .none zk zv zc)] [c, dc, d, l, dl, z, dz, gk] → Q .none { s with heap := h', toks := tk' }) :
    wpAny (model prog w) (ktrTop dp un gd cn cs L a ccd cl outer) (call (.ref 163) [.ref c]) Q E s := by
  have hn0 := hn
  simp only [List.nodup_cons, List.mem_cons, List.not_mem_nil, or_false, not_or, List.nodup_nil, not_false_eq_true, and_true] at hn
  obtain ⟨⟨n_0_1, n_0_2, n_0_3, n_0_4, n_0_5, n_0_6, n_0_7, n_0_8, n_0_9, n_0_10, n_0_11, n_0_12⟩, ⟨n_1_2, n_1_3, n_1_4, n_1_5, n_1_6, n_1_7, n_1_8, n_1_9, n_1_10, n_1_11, n_1_12⟩, ⟨n_2_3, n_2_4, n_2_5, n_2_6, n_2_7, n_2_8, n_2_9, n_2_10, n_2_11, n_2_12⟩, ⟨n_3_4, n_3_5, n_3_6, n_3_7, n_3_8, n_3_9, n_3_10, n_3_11, n_3_12⟩, ⟨n_4_5, n_4_6, n_4_7, n_4_8, n_4_9, n_4_10, n_4_11, n_4_12⟩, ⟨n_5_6, n_5_7, n_5_8, n_5_9, n_5_10, n_5_11, n_5_12⟩, ⟨n_6_7, n_6_8, n_6_9, n_6_10, n_6_11, n_6_12⟩, ⟨n_7_8, n_7_9, n_7_10, n_7_11, n_7_12⟩, ⟨n_8_9, n_8_10, n_8_11, n_8_12⟩, ⟨n_9_10, n_9_11, n_9_12⟩, ⟨n_10_11, n_10_12⟩, n_11_12⟩ := hn
  refine wpAny_call ?_
  k_dflt ktr_enter
  rename_i g' L' h' F' N' B' X' T' kk'
  have hc9 : ∀ q9 ∈ ([(c, instObj 189 dc),
      (dc, cacheD w.params tc1 tc2 tc3 tc4 tc5 (.ref d) mru (.ref l) mx af),
      (d, dictK w xs n),
      (l, instObj 53 dl),
      (dl, nodeD w.params tl1 tl2 tl3 tl4 tl5 tl6 (.ref z) .none lk lv (.ref f)),
      (z, instObj 53 dz),
      (dz, nodeD w.params tz1 tz2 tz3 tz4 tz5 tz6 zp zn zk zv zc),
      (gk, listOf its ng)] : List (Addr × Obj)), q9.2.cls ≠ .type "tuple" := by simp only [List.forall_mem_cons]; simp
  have hx9 := lift_keyed hx kk' N hc9
  have hkl9 := lift_key hkl kk' N hc9
  have tl9 := tl.lift kk' (off_of_nodup (ads := [c, dc, d, l, dl, z, dz, gk]) hn0)
  have hfn9 := tl9.fn
  clear hc9
  k_steps
  unfold held
  (rename Fr _ _ _ _ => F8); (rename News _ _ _ _ => N8)
  k_dflt (refine rn B' F8 X' T' rfl (by first | omega | (dsimp only [ktrTop, Around.deeper]; omega) | (show _ + 1 + _ < _; omega)) (by first | omega | (dsimp only [ktrTop, Around.deeper]; omega) | (show _ + 1 + _ < _; omega)) hn0 (tl9.keeps F8.keep) hsz (hx9.keeps F8.keep) (hkl9.keeps F8.keep) hll hxs hhl hhv N8 (fun h8 tk8 t F9 N9 K9 Z9 => ?_))
  
  try clear F8 N8
  try dsimp only
  k_steps
  all_goals (
    try dsimp only
    try (k_unfold; try dsimp only)
    exact ⟨_, _, _, by assumption, by assumption, fun kF kN kk kf => ret _ _ _ kF kN kk kf⟩)

set_option maxHeartbeats 4000000 in
theorem cu {dp un : Nat} {gd : Option (List Code)} {cn : Str} {cs : Scope} {a : Addr} {ccd : Value} {cl : List (Str × Addr)} {outer : List Env} {A₀ : Around} {base h₀ : Heap} {L : Addr} {m : Str → Option Value} {s : Shared} {Q E : Value → Shared → Prop}
    {tc1 tc2 tc3 tc4 tc5 : Tok} {tl1 tl2 tl3 tl4 tl5 tl6 tz1 tz2 tz3 tz4 tz5 tz6 : Tok} {c dc d : Addr} {mx : Value} {M : Int} {tM : Tok} {xs : Ents} {n : Nat} {mru : Value} {z dz : Addr} {zp zn zk zv zc : Value} {l dl : Addr} {lk lv : Value} {kl : Key} {f gk c2 cg ck lg : Addr} {k : Int} {qual : Str} {pm ctv : Value} {gs : List Value} {its : Array Value} {ng : Nat}
    (B : Below A₀ base outer h₀) (F : Fr h₀ L s.heap m) (X : (hd.heap_39 w.params).In h₀) (T : Top p loose mean mg mb h₀) (hk : cs.kind = .function) (hd : dp + 45 < recursionLimit) (hu : un + 500 < cLine) (hn : [c, dc, d, l, dl, z, dz, gk, f, c2, cg, ck, lg].Nodup)
    (tl : TellerAt s.heap f k gk qual pm ctv c2 cg ck lg gs) (hsz : its.size ≤ sizeLine) (hx : Keyed prog w s.heap xs) (hkl : IsKey prog w s.heap kl lk) (hll : look xs kl = some (.ref l)) (hxs : xs.length ≤ sizeLine) (hhl : handedIn lk = true) (hhv : handedIn lv = true) (hd0 : (d == sysModules) = false) (hx63 : (xs.length : Int) < 2 ^ 63) (hd63 : ((dropK xs kl).length : Int) < 2 ^ 63) (hgt : M < (xs.length : Int)) (hle : ((dropK xs kl).length : Int) ≤ M)
    (N : News h₀ L s.heap [(c, instObj 189 dc),
      (dc, cacheD w.params tc1 tc2 tc3 tc4 tc5 (.ref d) mru (.ref l) mx (.int M tM)),
      (d, dictK w xs n),
      (l, instObj 53 dl),
      (dl, nodeD w.params tl1 tl2 tl3 tl4 tl5 tl6 (.ref z) .none lk lv (.ref f)),
      (z, instObj 53 dz),
      (dz, nodeD w.params tz1 tz2 tz3 tz4 tz5 tz6 zp zn zk zv zc),
      (gk, listOf its ng)])
    (ret : ∀ h' tk' (t : Addr), Fr h₀ L h' m → News h₀ L h' [(t, tupOf [lk, lv]),
      (gk, listOf (its.push (.ref t)) (ng + 1)),
      (l, instObj 53 dl),
      (dl, nodeD w.params tl1 tl2 tl3 tl4 tl5 tl6 .none .none lk .none .none),
      (c, instObj 189 dc),
      (dc, cacheD w.params tc1 tc2 tc3 tc4 tc5 (.ref d) mru (.ref z) mx (.int M tM)),
      (d, dictK w (dropK xs kl) (n + 1)),
      (z, instObj 53 dz),
      (dz, nodeD w.params tz1 tz2 tz3 tz4 tz5 tz6 zp .none zk zv zc)] → Keep s.heap h' [c, dc, d, l, dl, z, dz, gk] → NewIn s.heap [(t, tupOf [lk, lv]),
      (gk, listOf (its.push (.ref t)) (ng + 1)),
      (l, instObj 53 dl),
      (dl, nodeD w.params tl1 tl2 tl3 tl4 tl5 tl6 .none .none lk .none .none),
      (c, instObj 189 dc),
      (dc, cacheD w.params tc1 tc2 tc3 tc4 tc5 (.ref d) mru (.ref z) mx (.int M tM)),
      (d, dictK w (dropK xs kl) (n + 1)),
      (z, instObj 53 dz),
      (dz, nodeD w.params tz1 tz2 tz3 tz4 tz5 tz6 zp .none zk zv zc)] [c, dc, d, l, dl, z, dz, gk] → Q .none { s with heap := h', toks := tk' }) :
    wpAny (model prog w) (ktrTop dp un gd cn cs L a ccd cl outer) (call (.ref 135) [.ref c]) Q E s := by
  have hn0 := hn
  simp only [List.nodup_cons, List.mem_cons, List.not_mem_nil, or_false, not_or, List.nodup_nil, not_false_eq_true, and_true] at hn
  obtain ⟨⟨n_0_1, n_0_2, n_0_3, n_0_4, n_0_5, n_0_6, n_0_7, n_0_8, n_0_9, n_0_10, n_0_11, n_0_12⟩, ⟨n_1_2, n_1_3, n_1_4, n_1_5, n_1_6, n_1_7, n_1_8, n_1_9, n_1_10, n_1_11, n_1_12⟩, ⟨n_2_3, n_2_4, n_2_5, n_2_6, n_2_7, n_2_8, n_2_9, n_2_10, n_2_11, n_2_12⟩, ⟨n_3_4, n_3_5, n_3_6, n_3_7, n_3_8, n_3_9, n_3_10, n_3_11, n_3_12⟩, ⟨n_4_5, n_4_6, n_4_7, n_4_8, n_4_9, n_4_10, n_4_11, n_4_12⟩, ⟨n_5_6, n_5_7, n_5_8, n_5_9, n_5_10, n_5_11, n_5_12⟩, ⟨n_6_7, n_6_8, n_6_9, n_6_10, n_6_11, n_6_12⟩, ⟨n_7_8, n_7_9, n_7_10, n_7_11, n_7_12⟩, ⟨n_8_9, n_8_10, n_8_11, n_8_12⟩, ⟨n_9_10, n_9_11, n_9_12⟩, ⟨n_10_11, n_10_12⟩, n_11_12⟩ := hn
  refine wpAny_call ?_
  k_dflt ktr_enter
  rename_i g' L' h' F' N' B' X' T' kk'
  have hc9 : ∀ q9 ∈ ([(c, instObj 189 dc),
      (dc, cacheD w.params tc1 tc2 tc3 tc4 tc5 (.ref d) mru (.ref l) mx (.int M tM)),
      (d, dictK w xs n),
      (l, instObj 53 dl),
      (dl, nodeD w.params tl1 tl2 tl3 tl4 tl5 tl6 (.ref z) .none lk lv (.ref f)),
      (z, instObj 53 dz),
      (dz, nodeD w.params tz1 tz2 tz3 tz4 tz5 tz6 zp zn zk zv zc),
      (gk, listOf its ng)] : List (Addr × Obj)), q9.2.cls ≠ .type "tuple" := by simp only [List.forall_mem_cons]; simp
  have hx9 := lift_keyed hx kk' N hc9
  have hkl9 := lift_key hkl kk' N hc9
  have tl9 := tl.lift kk' (off_of_nodup (ads := [c, dc, d, l, dl, z, dz, gk]) hn0)
  have hfn9 := tl9.fn
  clear hc9
  k_steps
  unfold held
  (rename Fr _ _ _ _ => F8); (rename News _ _ _ _ => N8)
  k_dflt (refine rl B' F8 X' T' rfl (by first | omega | (dsimp only [ktrTop, Around.deeper]; omega) | (show _ + 1 + _ < _; omega)) (by first | omega | (dsimp only [ktrTop, Around.deeper]; omega) | (show _ + 1 + _ < _; omega)) hn0 (tl9.keeps F8.keep) hsz (hx9.keeps F8.keep) (hkl9.keeps F8.keep) hll hxs hhl hhv N8 (fun h8 tk8 t F9 N9 K9 Z9 => ?_))
  
  try clear F8 N8
  try dsimp only
  k_steps
  all_goals (
    try dsimp only
    try (k_unfold; try dsimp only)
    exact ⟨_, _, _, by assumption, by assumption, fun kF kN kk kf => ret _ _ _ kF kN kk kf⟩)
end
end Mine
end
section
theorem Mine.off_Walk6_first : True := by w_top off; exact True.intro
local macro_rules | `(tactic| walk_at "no such word") => `(tactic| fail "no step")
set_option maxRecDepth 100000
set_option linter.unusedVariables false
namespace Mine
open PySem PySem.W PySem.Spec PySem.Calls PyProof.Rows
theorem fillF : (PySem.Challenge.rw_bb0035_01 = PySem.Challenge.rw_bb0035_01) ∧ (hd.heap_39 = hd.heap_39) := by k_fill; exact ⟨rfl, rfl⟩

local macro_rules | `(tactic| k_ne) => `(tactic| first | (refine neN ?_; (try dsimp only); first | with_reducible assumption | exact Ne.symm (by with_reducible assumption) | exact ne_of_cls (by k_asm) (by k_mem) (by k_mem) (by dsimp only [tupOf, nodeD, cacheD, dictK, dictOf, instObj, W.listOf]; decide)))
local macro_rules | `(tactic| ktr_enter) => `(tactic| (refine' code_T ?k1 ?k2 ?k3 ?k4 ?k5 ?kA ?kF ?kK ?k6 ?k7 ?k8 ?k9 ?kB ?_ ?c2 ?c3 ?c4 ?c5; (case kA => exact rfl); (case kF => exact rfl); (case kK => assumption); (case k1 => k_asm); (case k2 => k_asm); (case k3 => k_asm); (case k4 => k_asm); (case k5 => k_asm); (case k6 => k_is); (case k7 => k_is); (case k8 => ktr_room); (case k9 => first | exact BindsTo.of_eq rfl | exact binds_K (by k_in) rfl (by k_is) rfl rfl rfl); (case c5 => decide); (case kB => exact locs rfl); (case c2 => exact rfl); (case c3 => exact rfl); (case c4 => exact rfl); k_whole; intro g' L' h' F' N' B' X' T' kk'; (try dsimp only); (try k_fold)))
local macro_rules | `(tactic| k_room) => `(tactic| ktr_room)
local macro_rules | `(tactic| k_units) => `(tactic| ktr_units)
local macro_rules | `(tactic| k_handed) => `(tactic| with_reducible assumption)
local macro_rules | `(tactic| walk_at "subscriptTail") => `(tactic| (k_here; (with_reducible show wpAny _ _ (subscriptTail _ _ (Value.ref _) _) _ _ _); k_dflt (refine' sub_key ?k1 ?k2 ?k3 ?k4 ?k5 ?k6 ?k7 ?k8 ?_; (case k1 => k_asm); (case k2 => k_asm); (case k3 => k_mem); (case k4 => k_asm); (case k5 => k_asm); (case k6 => k_asm); (case k7 => ktr_units); (case k8 => with_unfolding_all rfl); k_whole); intro tk9))
local macro_rules | `(tactic| walk_at "compareOp IsNot") => `(tactic| (k_here; (with_reducible show wpAny _ _ (compareOp CmpOp.IsNot _ Value.none) _ _ _); k_dflt (refine' isNot_key_none ?a ?_; (case a => with_reducible assumption); k_whole)))
local macro_rules | `(tactic| walk_at "compareOp Is") => `(tactic| (k_here; (with_reducible show wpAny _ _ (compareOp CmpOp.Is _ Value.none) _ _ _); k_dflt (refine' is_key_none ?a ?_; (case a => with_reducible assumption); k_whole)))
local macro_rules | `(tactic| walk_at "compareOp Is ref ref") => `(tactic| (k_here; (with_reducible show wpAny _ _ (compareOp CmpOp.Is (Value.ref _) (Value.ref _)) _ _ _); k_dflt (refine' is_ref_ne ?a ?b ?c ?d ?_; (case a => first | with_reducible assumption | exact Ne.symm (by with_reducible assumption)); (case b => first | exact News.get (by k_asm) (by k_mem) | exact Fr.keep (by k_asm) _ _ (by with_reducible assumption)); (case c => first | exact News.get (by k_asm) (by k_mem) | exact Fr.keep (by k_asm) _ _ (by with_reducible assumption)); (case d => intro q9; cases q9); k_whole)))
local macro_rules | `(tactic| walk_at "compareOp In") => `(tactic| (k_here; (with_reducible show wpAny _ _ (compareOp CmpOp.In _ (Value.ref _)) _ _ _); k_dflt (refine' in_keyN ?k1 ?k2 ?k3 ?k4 ?k5 ?k6 ?k7 _ ?k8 ?_; (case k1 => k_asm); (case k2 => k_asm); (case k3 => k_mem); (case k4 => k_asm); (case k5 => k_asm); (case k6 => k_asm); (case k7 => ktr_units); (case k8 => with_reducible assumption); k_whole); intro tk9))
local macro_rules | `(tactic| walk_at "call builtin:len") => `(tactic| (k_here; (with_reducible show wpAny _ _ (call (Value.builtin "len") [Value.ref _]) _ _ _); k_dflt (refine' len_keyN ?k1 ?k2 ?k3 ?k4 ?_; (case k1 => k_asm); (case k2 => k_mem); (case k3 => k_asm); (case k4 => first | with_reducible assumption | (simp only [List.length_append, List.length_cons, List.length_nil]; omega) | omega); k_whole); intro tk8 tk9))
local macro_rules | `(tactic| walk_at "getMethod ref") => `(tactic| (k_here; (with_reducible show wpAny _ _ (getMethod (Value.ref _) (Str.ofString "get") _) _ _ _); k_dflt (refine' methodN ?k1 ?k2 PySem.F.slot_dict_get PySem.F.type_dict_get ?_; (case k1 => k_asm); (case k2 => k_mem); k_whole)))
local macro_rules | `(tactic| walk_at "getMethod ref") => `(tactic| (k_here; (with_reducible show wpAny _ _ (getMethod (Value.ref _) (Str.ofString "pop") _) _ _ _); k_dflt (refine' methodN ?k1 ?k2 PySem.F.slot_dict_pop PySem.F.type_dict_pop ?_; (case k1 => k_asm); (case k2 => k_mem); k_whole)))
local macro_rules | `(tactic| walk_at "getMethod ref") => `(tactic| (k_here; (with_reducible show wpAny _ _ (getMethod (Value.ref _) (Str.ofString "cleanup") _) _ _ _); k_dflt (refine' kmu_own ?k1 ?k2 ?k3 ?k4 ?k5 ?_; (case k1 => k_asm); (case k2 => k_asm); (case k3 => k_inst); (case k4 => k_is); (case k5 => k_is); k_whole)))
local macro_rules | `(tactic| walk_at "call builtin:dict.get") => `(tactic| (k_here; (with_reducible show wpAny _ _ (call (Value.builtin _) [Value.ref _, _, _]) _ _ _); k_dflt (refine' get2_keyN ?k1 ?k2 ?k3 ?k4 ?k5 ?k6 ?k7 ?k8 ?_; (case k1 => k_asm); (case k2 => k_asm); (case k3 => k_mem); (case k4 => k_asm); (case k5 => k_asm); (case k6 => k_asm); (case k7 => ktr_units); (case k8 => k_asm); k_whole); intro tk9; (try dsimp only [Option.getD])))
local macro_rules | `(tactic| walk_at "call builtin:dict.pop") => `(tactic| (k_here; (with_reducible show wpAny _ _ (call (Value.builtin _) [Value.ref _, _]) _ _ _); k_dflt (refine' pop_keyN ?k1 ?k2 ?k3 ?k4 ?k5 ?k6 ?k7 ?k8 ?_; (case k1 => k_asm); (case k2 => k_asm); (case k3 => k_upd); (case k4 => k_asm); (case k5 => k_asm); (case k6 => ktr_units); (case k7 => k_asm); (case k8 => k_asm); k_whole); intro h9 tk9 F' N'; (try k_sweep)))
local macro_rules | `(tactic| walk_at "setItem ref") => `(tactic| (k_here; (with_reducible show wpAny _ _ (setItem (Value.ref _) _ _) _ _ _); k_dflt (refine' setItem_keyN ?k1 ?k2 ?k3 ?k4 ?k5 ?k6 ?k7 ?k8 ?_; (case k1 => k_asm); (case k2 => k_asm); (case k3 => k_upd); (case k4 => k_asm); (case k5 => k_asm); (case k6 => ktr_units); (case k7 => k_asm); (case k8 => k_asm); k_whole); intro h9 tk9 F' N'; (try k_sweep)))

local macro_rules | `(tactic| walk_at "callWith ref") => `(tactic| (k_here; (with_reducible show wpAny _ _ (callWith _ (Value.ref _) _ _ _) _ _ _); k_dflt (refine' callWith_fn ?a ?b ?_ ?c ?d; (case a => with_reducible assumption); (case b => rfl); (case c => rfl); (case d => rfl); k_whole)))
local macro_rules | `(tactic| walk_at "And") => `(tactic| ((with_reducible show (Heap.get? _ _ = some _) ∧ _); refine ⟨Fr.keep (by k_asm) _ _ (by with_reducible assumption), ?_⟩; (try dsimp only [List.nil_append, List.cons_append])))

local macro_rules | `(tactic| walk_at "ite") => `(tactic| first | refine PySem.W.ite_pos (by (try simp only [decide_eq_true_eq, List.length_append, List.length_cons, List.length_nil]); omega) ?_ | refine PySem.W.ite_neg (by (try simp only [decide_eq_true_eq, List.length_append, List.length_cons, List.length_nil]); omega) ?_)
local macro_rules | `(tactic| walk_at "call ref") => `(tactic| ((with_reducible show wpAny _ _ (call (Value.ref 149) _) _ _ _); refine Hold.intro ?_))
local macro_rules | `(tactic| walk_at "call ref") => `(tactic| ((with_reducible show wpAny _ _ (call (Value.ref 135) _) _ _ _); refine Hold.intro ?_))

section
variable {prog : Program} {w : World} {p : Program} {loose : List Str} {mean : ExcName → Option Value} {mg mb : Str → Option Value}

set_option maxHeartbeats 4000000 in
theorem add_first {dp un : Nat} {gd : Option (List Code)} {cn : Str} {cs : Scope} {a : Addr} {ccd : Value} {cl : List (Str × Addr)} {outer : List Env} {A₀ : Around} {base h₀ : Heap} {L : Addr} {m : Str → Option Value} {s : Shared} {Q E : Value → Shared → Prop}
    {tc1 tc2 tc3 tc4 tc5 : Tok} {c dc d : Addr} {M : Int} {tM : Tok} {af : Value} {xs : Ents} {n : Nat} {kx : Key} {key val : Value} {f : Addr} {lru : Value}
    (B : Below A₀ base outer h₀) (F : Fr h₀ L s.heap m) (X : (hd.heap_39 w.params).In h₀) (T : Top p loose mean mg mb h₀) (hk : cs.kind = .function) (hd : dp + 60 < recursionLimit) (hu : un + 700 < cLine) (hn : [c, dc, d].Nodup)
    (hx : Keyed prog w s.heap xs) (hkx : IsKey prog w s.heap kx key) (hno : kx ∉ keysOf xs) (hlx : (look xs kx).isSome = false) (hxs : xs.length ≤ sizeLine) (hd0 : (d == sysModules) = false) (hx63 : (xs.length : Int) + 1 < 2 ^ 63) (hle : (xs.length : Int) + 1 ≤ M)
    (N : News h₀ L s.heap [(c, instObj 189 dc),
      (dc, cacheD w.params tc1 tc2 tc3 tc4 tc5 (.ref d) .none lru (.int M tM) af),
      (d, dictK w xs n)])
    (ret : ∀ h' tk' (x dx : Addr) (tx1 tx2 tx3 tx4 tx5 tx6 : Tok), Fr h₀ L h' m → News h₀ L h' [(c, instObj 189 dc),
      (dc, cacheD w.params tc1 tc2 tc3 tc4 tc5 (.ref d) (.ref x) (.ref x) (.int M tM) af),
      (d, dictK w (xs ++ [(kx, key, .ref x)]) (n + 1)),
      (x, instObj 53 dx),
      (dx, nodeD w.params tx1 tx2 tx3 tx4 tx5 tx6 .none .none key val (.ref f))] → Keep s.heap h' [c, dc, d] → NewIn s.heap [(c, instObj 189 dc),
      (dc, cacheD w.params tc1 tc2 tc3 tc4 tc5 (.ref d) (.ref x) (.ref x) (.int M tM) af),
      (d, dictK w (xs ++ [(kx, key, .ref x)]) (n + 1)),
      (x, instObj 53 dx),
      (dx, nodeD w.params tx1 tx2 tx3 tx4 tx5 tx6 .none .none key val (.ref f))] [c, dc, d] → (∀ b ∈ [c, dc, d], b ≠ x ∧ b ≠ dx) → x ≠ dx → Q .none { s with heap := h', toks := tk' }) :
    wpAny (model prog w) (ktrTop dp un gd cn cs L a ccd cl outer) (call (.ref 101) [.ref c, key, val, .ref f]) Q E s := by
  have hn0 := hn
  simp only [List.nodup_cons, List.mem_cons, List.not_mem_nil, or_false, not_or, List.nodup_nil, not_false_eq_true, and_true] at hn
  obtain ⟨⟨n_0_1, n_0_2⟩, n_1_2⟩ := hn
  refine wpAny_call ?_
  k_dflt ktr_enter
  rename_i g' L' h' F' N' B' X' T' kk'
  have hc9 : ∀ q9 ∈ ([(c, instObj 189 dc),
      (dc, cacheD w.params tc1 tc2 tc3 tc4 tc5 (.ref d) .none lru (.int M tM) af),
      (d, dictK w xs n)] : List (Addr × Obj)), q9.2.cls ≠ .type "tuple" := by simp only [List.forall_mem_cons]; simp
  have hx9 := lift_keyed hx kk' N hc9
  have hkx9 := lift_key hkx kk' N hc9
  clear hc9
  k_steps
  rename_i x dx h1_ l1_ l2_ g1_ L1_ h2_ B1_ X1_ T1_ tk1_ h3_ h4_ h5_ h6_ h7_ h8_ F1_ N1_ Tc1_ kX1_ h9_ h10_ tk2_ F8 N8
  have hl1_ := l1_; clear F1_ N1_
  have hxn_ : ∀ b ∈ [c, dc, d], b ≠ x ∧ b ≠ dx := by simp only [List.forall_mem_cons]; (repeat' apply And.intro) <;> first | assumption | exact Ne.symm (by assumption) | (refine neN ?_; omega) | exact List.forall_mem_nil _
  have hxd_ : x ≠ dx := by first | assumption | exact Ne.symm (by assumption) | (refine neN ?_; omega)
  unfold held
  k_dflt (refine' ra_first B' F8 X' T' rfl ?k1 ?k2 ?k3  ?k4 (fun h8 tk8  F9 N9 K9  => ?k5))
  (case k4 => exact news_sub N8 (List.forall_mem_cons.mpr ⟨by k_mem, (List.forall_mem_cons.mpr ⟨by k_mem, (List.forall_mem_cons.mpr ⟨by k_mem, (List.forall_mem_nil _)⟩)⟩)⟩))
  (case k1 => (first | omega | (dsimp only [ktrTop, Around.deeper]; omega) | (show _ + 1 + _ < _; omega)))
  (case k2 => (first | omega | (dsimp only [ktrTop, Around.deeper]; omega) | (show _ + 1 + _ < _; omega)))
  (case k3 => exact (by simp only [List.nodup_cons, List.mem_cons, List.not_mem_nil, or_false, not_or, List.nodup_nil, not_false_eq_true, and_true]; (repeat' apply And.intro) <;> first | assumption | exact Ne.symm (by assumption) | (refine neN ?_; omega)))
  have N9 := news_app N9 N8 K9 (rest := [(x, instObj 53 dx), (dx, _)]) (List.forall_mem_cons.mpr ⟨by k_mem, (List.forall_mem_cons.mpr ⟨by k_mem, (List.forall_mem_nil _)⟩)⟩) (List.forall_mem_cons.mpr ⟨(by (try dsimp only); simp only [List.mem_cons, List.not_mem_nil, or_false, not_or]; (repeat' apply And.intro) <;> first | assumption | exact Ne.symm (by assumption) | (refine neN ?_; omega)), (List.forall_mem_cons.mpr ⟨(by (try dsimp only); simp only [List.mem_cons, List.not_mem_nil, or_false, not_or]; (repeat' apply And.intro) <;> first | assumption | exact Ne.symm (by assumption) | (refine neN ?_; omega)), (List.forall_mem_nil _)⟩)⟩)
  simp only [List.cons_append, List.nil_append] at N9
  clear F8 N8
  try dsimp only
  k_steps
  all_goals (
    try dsimp only
    try (k_unfold; try dsimp only)
    exact ⟨_, _, _, by assumption, by assumption, fun kF kN kk kf => ret _ _ x dx _ _ _ _ _ _ kF kN kk kf hxn_ hxd_⟩)
end
end Mine
end
section
theorem Mine.off_Walk6_one : True := by w_top off; exact True.intro
set_option maxRecDepth 100000
set_option linter.unusedVariables false
namespace Mine
open PySem PySem.W PySem.Spec PySem.Calls PyProof.Rows
theorem fillF_Walk6_one : (PySem.Challenge.rw_bb0035_01 = PySem.Challenge.rw_bb0035_01) ∧ (hd.heap_39 = hd.heap_39) := by k_fill; exact ⟨rfl, rfl⟩

local macro_rules | `(tactic| k_ne) => `(tactic| first | (refine neN ?_; (try dsimp only); first | with_reducible assumption | exact Ne.symm (by with_reducible assumption) | exact ne_of_cls (by k_asm) (by k_mem) (by k_mem) (by dsimp only [tupOf, nodeD, cacheD, dictK, dictOf, instObj, W.listOf]; decide)))
local macro_rules | `(tactic| ktr_enter) => `(tactic| (refine' code_T ?k1 ?k2 ?k3 ?k4 ?k5 ?kA ?kF ?kK ?k6 ?k7 ?k8 ?k9 ?kB ?_ ?c2 ?c3 ?c4 ?c5; (case kA => exact rfl); (case kF => exact rfl); (case kK => assumption); (case k1 => k_asm); (case k2 => k_asm); (case k3 => k_asm); (case k4 => k_asm); (case k5 => k_asm); (case k6 => k_is); (case k7 => k_is); (case k8 => ktr_room); (case k9 => first | exact BindsTo.of_eq rfl | exact binds_K (by k_in) rfl (by k_is) rfl rfl rfl); (case c5 => decide); (case kB => exact locs rfl); (case c2 => exact rfl); (case c3 => exact rfl); (case c4 => exact rfl); k_whole; intro g' L' h' F' N' B' X' T' kk'; (try dsimp only); (try k_fold)))
local macro_rules | `(tactic| k_room) => `(tactic| ktr_room)
local macro_rules | `(tactic| k_units) => `(tactic| ktr_units)
local macro_rules | `(tactic| k_handed) => `(tactic| with_reducible assumption)
local macro_rules | `(tactic| walk_at "subscriptTail") => `(tactic| (k_here; (with_reducible show wpAny _ _ (subscriptTail _ _ (Value.ref _) _) _ _ _); k_dflt (refine' sub_key ?k1 ?k2 ?k3 ?k4 ?k5 ?k6 ?k7 ?k8 ?_; (case k1 => k_asm); (case k2 => k_asm); (case k3 => k_mem); (case k4 => k_asm); (case k5 => k_asm); (case k6 => k_asm); (case k7 => ktr_units); (case k8 => with_unfolding_all rfl); k_whole); intro tk9))
local macro_rules | `(tactic| walk_at "compareOp IsNot") => `(tactic| (k_here; (with_reducible show wpAny _ _ (compareOp CmpOp.IsNot _ Value.none) _ _ _); k_dflt (refine' isNot_key_none ?a ?_; (case a => with_reducible assumption); k_whole)))
local macro_rules | `(tactic| walk_at "compareOp Is") => `(tactic| (k_here; (with_reducible show wpAny _ _ (compareOp CmpOp.Is _ Value.none) _ _ _); k_dflt (refine' is_key_none ?a ?_; (case a => with_reducible assumption); k_whole)))
local macro_rules | `(tactic| walk_at "compareOp Is ref ref") => `(tactic| (k_here; (with_reducible show wpAny _ _ (compareOp CmpOp.Is (Value.ref _) (Value.ref _)) _ _ _); k_dflt (refine' is_ref_ne ?a ?b ?c ?d ?_; (case a => first | with_reducible assumption | exact Ne.symm (by with_reducible assumption)); (case b => first | exact News.get (by k_asm) (by k_mem) | exact Fr.keep (by k_asm) _ _ (by with_reducible assumption)); (case c => first | exact News.get (by k_asm) (by k_mem) | exact Fr.keep (by k_asm) _ _ (by with_reducible assumption)); (case d => intro q9; cases q9); k_whole)))
local macro_rules | `(tactic| walk_at "compareOp In") => `(tactic| (k_here; (with_reducible show wpAny _ _ (compareOp CmpOp.In _ (Value.ref _)) _ _ _); k_dflt (refine' in_keyN ?k1 ?k2 ?k3 ?k4 ?k5 ?k6 ?k7 _ ?k8 ?_; (case k1 => k_asm); (case k2 => k_asm); (case k3 => k_mem); (case k4 => k_asm); (case k5 => k_asm); (case k6 => k_asm); (case k7 => ktr_units); (case k8 => with_reducible assumption); k_whole); intro tk9))
local macro_rules | `(tactic| walk_at "call builtin:len") => `(tactic| (k_here; (with_reducible show wpAny _ _ (call (Value.builtin "len") [Value.ref _]) _ _ _); k_dflt (refine' len_keyN ?k1 ?k2 ?k3 ?k4 ?_; (case k1 => k_asm); (case k2 => k_mem); (case k3 => k_asm); (case k4 => first | with_reducible assumption | (simp only [List.length_append, List.length_cons, List.length_nil]; omega) | omega); k_whole); intro tk8 tk9))
local macro_rules | `(tactic| walk_at "getMethod ref") => `(tactic| (k_here; (with_reducible show wpAny _ _ (getMethod (Value.ref _) (Str.ofString "get") _) _ _ _); k_dflt (refine' methodN ?k1 ?k2 PySem.F.slot_dict_get PySem.F.type_dict_get ?_; (case k1 => k_asm); (case k2 => k_mem); k_whole)))
local macro_rules | `(tactic| walk_at "getMethod ref") => `(tactic| (k_here; (with_reducible show wpAny _ _ (getMethod (Value.ref _) (Str.ofString "pop") _) _ _ _); k_dflt (refine' methodN ?k1 ?k2 PySem.F.slot_dict_pop PySem.F.type_dict_pop ?_; (case k1 => k_asm); (case k2 => k_mem); k_whole)))
local macro_rules | `(tactic| walk_at "getMethod ref") => `(tactic| (k_here; (with_reducible show wpAny _ _ (getMethod (Value.ref _) (Str.ofString "cleanup") _) _ _ _); k_dflt (refine' kmu_own ?k1 ?k2 ?k3 ?k4 ?k5 ?_; (case k1 => k_asm); (case k2 => k_asm); (case k3 => k_inst); (case k4 => k_is); (case k5 => k_is); k_whole)))
local macro_rules | `(tactic| walk_at "call builtin:dict.get") => `(tactic| (k_here; (with_reducible show wpAny _ _ (call (Value.builtin _) [Value.ref _, _, _]) _ _ _); k_dflt (refine' get2_keyN ?k1 ?k2 ?k3 ?k4 ?k5 ?k6 ?k7 ?k8 ?_; (case k1 => k_asm); (case k2 => k_asm); (case k3 => k_mem); (case k4 => k_asm); (case k5 => k_asm); (case k6 => k_asm); (case k7 => ktr_units); (case k8 => k_asm); k_whole); intro tk9; (try dsimp only [Option.getD])))
local macro_rules | `(tactic| walk_at "call builtin:dict.pop") => `(tactic| (k_here; (with_reducible show wpAny _ _ (call (Value.builtin _) [Value.ref _, _]) _ _ _); k_dflt (refine' pop_keyN ?k1 ?k2 ?k3 ?k4 ?k5 ?k6 ?k7 ?k8 ?_; (case k1 => k_asm); (case k2 => k_asm); (case k3 => k_upd); (case k4 => k_asm); (case k5 => k_asm); (case k6 => ktr_units); (case k7 => k_asm); (case k8 => k_asm); k_whole); intro h9 tk9 F' N'; (try k_sweep)))
local macro_rules | `(tactic| walk_at "setItem ref") => `(tactic| (k_here; (with_reducible show wpAny _ _ (setItem (Value.ref _) _ _) _ _ _); k_dflt (refine' setItem_keyN ?k1 ?k2 ?k3 ?k4 ?k5 ?k6 ?k7 ?k8 ?_; (case k1 => k_asm); (case k2 => k_asm); (case k3 => k_upd); (case k4 => k_asm); (case k5 => k_asm); (case k6 => ktr_units); (case k7 => k_asm); (case k8 => k_asm); k_whole); intro h9 tk9 F' N'; (try k_sweep)))

local macro_rules | `(tactic| walk_at "callWith ref") => `(tactic| (k_here; (with_reducible show wpAny _ _ (callWith _ (Value.ref _) _ _ _) _ _ _); k_dflt (refine' callWith_fn ?a ?b ?_ ?c ?d; (case a => with_reducible assumption); (case b => rfl); (case c => rfl); (case d => rfl); k_whole)))
local macro_rules | `(tactic| walk_at "And") => `(tactic| ((with_reducible show (Heap.get? _ _ = some _) ∧ _); refine ⟨Fr.keep (by k_asm) _ _ (by with_reducible assumption), ?_⟩; (try dsimp only [List.nil_append, List.cons_append])))

local macro_rules | `(tactic| walk_at "ite") => `(tactic| first | refine PySem.W.ite_pos (by (try simp only [decide_eq_true_eq, List.length_append, List.length_cons, List.length_nil]); omega) ?_ | refine PySem.W.ite_neg (by (try simp only [decide_eq_true_eq, List.length_append, List.length_cons, List.length_nil]); omega) ?_)
local macro_rules | `(tactic| walk_at "call ref") => `(tactic| ((with_reducible show wpAny _ _ (call (Value.ref 149) _) _ _ _); refine Hold.intro ?_))
local macro_rules | `(tactic| walk_at "call ref") => `(tactic| ((with_reducible show wpAny _ _ (call (Value.ref 135) _) _ _ _); refine Hold.intro ?_))

section
variable {prog : Program} {w : World} {p : Program} {loose : List Str} {mean : ExcName → Option Value} {mg mb : Str → Option Value}

set_option maxHeartbeats 4000000 in
theorem add_one {dp un : Nat} {gd : Option (List Code)} {cn : Str} {cs : Scope} {a : Addr} {ccd : Value} {cl : List (Str × Addr)} {outer : List Env} {A₀ : Around} {base h₀ : Heap} {L : Addr} {m : Str → Option Value} {s : Shared} {Q E : Value → Shared → Prop}
    {tc1 tc2 tc3 tc4 tc5 : Tok} {c dc d : Addr} {M : Int} {tM : Tok} {af : Value} {xs : Ents} {n : Nat} {kx : Key} {key val : Value} {f : Addr} {tr1 tr2 tr3 tr4 tr5 tr6 : Tok} {r dr : Addr} {rp rn rk rv rc : Value}
    (B : Below A₀ base outer h₀) (F : Fr h₀ L s.heap m) (X : (hd.heap_39 w.params).In h₀) (T : Top p loose mean mg mb h₀) (hk : cs.kind = .function) (hd : dp + 60 < recursionLimit) (hu : un + 700 < cLine) (hn : [c, dc, d, r, dr].Nodup)
    (hx : Keyed prog w s.heap xs) (hkx : IsKey prog w s.heap kx key) (hno : kx ∉ keysOf xs) (hlx : (look xs kx).isSome = false) (hxs : xs.length ≤ sizeLine) (hd0 : (d == sysModules) = false) (hx63 : (xs.length : Int) + 1 < 2 ^ 63) (hle : (xs.length : Int) + 1 ≤ M) (hhr : handedIn rk = true)
    (N : News h₀ L s.heap [(c, instObj 189 dc),
      (dc, cacheD w.params tc1 tc2 tc3 tc4 tc5 (.ref d) (.ref r) (.ref r) (.int M tM) af),
      (d, dictK w xs n),
      (r, instObj 53 dr),
      (dr, nodeD w.params tr1 tr2 tr3 tr4 tr5 tr6 rp rn rk rv rc)])
    (ret : ∀ h' tk' (x dx : Addr) (tx1 tx2 tx3 tx4 tx5 tx6 : Tok), Fr h₀ L h' m → News h₀ L h' [(c, instObj 189 dc),
      (dc, cacheD w.params tc1 tc2 tc3 tc4 tc5 (.ref d) (.ref x) (.ref r) (.int M tM) af),
      (d, dictK w (xs ++ [(kx, key, .ref x)]) (n + 1)),
      (x, instObj 53 dx),
      (dx, nodeD w.params tx1 tx2 tx3 tx4 tx5 tx6 .none rk key val (.ref f)),
      (r, instObj 53 dr),
      (dr, nodeD w.params tr1 tr2 tr3 tr4 tr5 tr6 (.ref x) rn rk rv rc)] → Keep s.heap h' [c, dc, d, r, dr] → NewIn s.heap [(c, instObj 189 dc),
      (dc, cacheD w.params tc1 tc2 tc3 tc4 tc5 (.ref d) (.ref x) (.ref r) (.int M tM) af),
      (d, dictK w (xs ++ [(kx, key, .ref x)]) (n + 1)),
      (x, instObj 53 dx),
      (dx, nodeD w.params tx1 tx2 tx3 tx4 tx5 tx6 .none rk key val (.ref f)),
      (r, instObj 53 dr),
      (dr, nodeD w.params tr1 tr2 tr3 tr4 tr5 tr6 (.ref x) rn rk rv rc)] [c, dc, d, r, dr] → (∀ b ∈ [c, dc, d, r, dr], b ≠ x ∧ b ≠ dx) → x ≠ dx → Q .none { s with heap := h', toks := tk' }) :
    wpAny (model prog w) (ktrTop dp un gd cn cs L a ccd cl outer) (call (.ref 101) [.ref c, key, val, .ref f]) Q E s := by
  have hn0 := hn
  simp only [List.nodup_cons, List.mem_cons, List.not_mem_nil, or_false, not_or, List.nodup_nil, not_false_eq_true, and_true] at hn
  obtain ⟨⟨n_0_1, n_0_2, n_0_3, n_0_4⟩, ⟨n_1_2, n_1_3, n_1_4⟩, ⟨n_2_3, n_2_4⟩, n_3_4⟩ := hn
  refine wpAny_call ?_
  k_dflt ktr_enter
  rename_i g' L' h' F' N' B' X' T' kk'
  have hc9 : ∀ q9 ∈ ([(c, instObj 189 dc),
      (dc, cacheD w.params tc1 tc2 tc3 tc4 tc5 (.ref d) (.ref r) (.ref r) (.int M tM) af),
      (d, dictK w xs n),
      (r, instObj 53 dr),
      (dr, nodeD w.params tr1 tr2 tr3 tr4 tr5 tr6 rp rn rk rv rc)] : List (Addr × Obj)), q9.2.cls ≠ .type "tuple" := by simp only [List.forall_mem_cons]; simp
  have hx9 := lift_keyed hx kk' N hc9
  have hkx9 := lift_key hkx kk' N hc9
  clear hc9
  k_steps
  rename_i x dx h1_ l1_ l2_ g1_ L1_ h2_ B1_ X1_ T1_ tk1_ h3_ h4_ h5_ h6_ h7_ h8_ F1_ N1_ Tc1_ kX1_ h9_ h10_ tk2_ F8 N8
  have hl1_ := l1_; clear F1_ N1_
  have hxn_ : ∀ b ∈ [c, dc, d, r, dr], b ≠ x ∧ b ≠ dx := by simp only [List.forall_mem_cons]; (repeat' apply And.intro) <;> first | assumption | exact Ne.symm (by assumption) | (refine neN ?_; omega) | exact List.forall_mem_nil _
  have hxd_ : x ≠ dx := by first | assumption | exact Ne.symm (by assumption) | (refine neN ?_; omega)
  unfold held
  k_dflt (refine' ra_new1 B' F8 X' T' rfl ?k1 ?k2 ?k3 hhr ?k4 (fun h8 tk8  F9 N9 K9  => ?k5))
  (case k4 => exact news_sub N8 (List.forall_mem_cons.mpr ⟨by k_mem, (List.forall_mem_cons.mpr ⟨by k_mem, (List.forall_mem_cons.mpr ⟨by k_mem, (List.forall_mem_cons.mpr ⟨by k_mem, (List.forall_mem_cons.mpr ⟨by k_mem, (List.forall_mem_cons.mpr ⟨by k_mem, (List.forall_mem_cons.mpr ⟨by k_mem, (List.forall_mem_nil _)⟩)⟩)⟩)⟩)⟩)⟩)⟩))
  (case k1 => (first | omega | (dsimp only [ktrTop, Around.deeper]; omega) | (show _ + 1 + _ < _; omega)))
  (case k2 => (first | omega | (dsimp only [ktrTop, Around.deeper]; omega) | (show _ + 1 + _ < _; omega)))
  (case k3 => exact (by simp only [List.nodup_cons, List.mem_cons, List.not_mem_nil, or_false, not_or, List.nodup_nil, not_false_eq_true, and_true]; (repeat' apply And.intro) <;> first | assumption | exact Ne.symm (by assumption) | (refine neN ?_; omega)))
  clear F8 N8
  try dsimp only
  k_steps
  all_goals (
    try dsimp only
    try (k_unfold; try dsimp only)
    exact ⟨_, _, _, by assumption, by assumption, fun kF kN kk kf => ret _ _ x dx _ _ _ _ _ _ kF kN kk kf hxn_ hxd_⟩)
end
end Mine
end
section
theorem Mine.off_Walk6_more : True := by w_top off; exact True.intro
local macro_rules | `(tactic| walk_at "no such word") => `(tactic| fail "no step")
set_option maxRecDepth 100000
set_option linter.unusedVariables false
namespace Mine
open PySem PySem.W PySem.Spec PySem.Calls PyProof.Rows
theorem fillF_Walk6_more : (PySem.Challenge.rw_bb0035_01 = PySem.Challenge.rw_bb0035_01) ∧ (hd.heap_39 = hd.heap_39) := by k_fill; exact ⟨rfl, rfl⟩

local macro_rules | `(tactic| k_ne) => `(tactic| first | (refine neN ?_; (try dsimp only); first | with_reducible assumption | exact Ne.symm (by with_reducible assumption) | exact ne_of_cls (by k_asm) (by k_mem) (by k_mem) (by dsimp only [tupOf, nodeD, cacheD, dictK, dictOf, instObj, W.listOf]; decide)))
local macro_rules | `(tactic| ktr_enter) => `(tactic| (refine' code_T ?k1 ?k2 ?k3 ?k4 ?k5 ?kA ?kF ?kK ?k6 ?k7 ?k8 ?k9 ?kB ?_ ?c2 ?c3 ?c4 ?c5; (case kA => exact rfl); (case kF => exact rfl); (case kK => assumption); (case k1 => k_asm); (case k2 => k_asm); (case k3 => k_asm); (case k4 => k_asm); (case k5 => k_asm); (case k6 => k_is); (case k7 => k_is); (case k8 => ktr_room); (case k9 => first | exact BindsTo.of_eq rfl | exact binds_K (by k_in) rfl (by k_is) rfl rfl rfl); (case c5 => decide); (case kB => exact locs rfl); (case c2 => exact rfl); (case c3 => exact rfl); (case c4 => exact rfl); k_whole; intro g' L' h' F' N' B' X' T' kk'; (try dsimp only); (try k_fold)))
local macro_rules | `(tactic| k_room) => `(tactic| ktr_room)
local macro_rules | `(tactic| k_units) => `(tactic| ktr_units)
local macro_rules | `(tactic| k_handed) => `(tactic| with_reducible assumption)
local macro_rules | `(tactic| walk_at "subscriptTail") => `(tactic| (k_here; (with_reducible show wpAny _ _ (subscriptTail _ _ (Value.ref _) _) _ _ _); k_dflt (refine' sub_key ?k1 ?k2 ?k3 ?k4 ?k5 ?k6 ?k7 ?k8 ?_; (case k1 => k_asm); (case k2 => k_asm); (case k3 => k_mem); (case k4 => k_asm); (case k5 => k_asm); (case k6 => k_asm); (case k7 => ktr_units); (case k8 => with_unfolding_all rfl); k_whole); intro tk9))
local macro_rules | `(tactic| walk_at "compareOp IsNot") => `(tactic| (k_here; (with_reducible show wpAny _ _ (compareOp CmpOp.IsNot _ Value.none) _ _ _); k_dflt (refine' isNot_key_none ?a ?_; (case a => with_reducible assumption); k_whole)))
local macro_rules | `(tactic| walk_at "compareOp Is") => `(tactic| (k_here; (with_reducible show wpAny _ _ (compareOp CmpOp.Is _ Value.none) _ _ _); k_dflt (refine' is_key_none ?a ?_; (case a => with_reducible assumption); k_whole)))
local macro_rules | `(tactic| walk_at "compareOp Is ref ref") => `(tactic| (k_here; (with_reducible show wpAny _ _ (compareOp CmpOp.Is (Value.ref _) (Value.ref _)) _ _ _); k_dflt (refine' is_ref_ne ?a ?b ?c ?d ?_; (case a => first | with_reducible assumption | exact Ne.symm (by with_reducible assumption)); (case b => first | exact News.get (by k_asm) (by k_mem) | exact Fr.keep (by k_asm) _ _ (by with_reducible assumption)); (case c => first | exact News.get (by k_asm) (by k_mem) | exact Fr.keep (by k_asm) _ _ (by with_reducible assumption)); (case d => intro q9; cases q9); k_whole)))
local macro_rules | `(tactic| walk_at "compareOp In") => `(tactic| (k_here; (with_reducible show wpAny _ _ (compareOp CmpOp.In _ (Value.ref _)) _ _ _); k_dflt (refine' in_keyN ?k1 ?k2 ?k3 ?k4 ?k5 ?k6 ?k7 _ ?k8 ?_; (case k1 => k_asm); (case k2 => k_asm); (case k3 => k_mem); (case k4 => k_asm); (case k5 => k_asm); (case k6 => k_asm); (case k7 => ktr_units); (case k8 => with_reducible assumption); k_whole); intro tk9))
local macro_rules | `(tactic| walk_at "call builtin:len") => `(tactic| (k_here; (with_reducible show wpAny _ _ (call (Value.builtin "len") [Value.ref _]) _ _ _); k_dflt (refine' len_keyN ?k1 ?k2 ?k3 ?k4 ?_; (case k1 => k_asm); (case k2 => k_mem); (case k3 => k_asm); (case k4 => first | with_reducible assumption | (simp only [List.length_append, List.length_cons, List.length_nil]; omega) | omega); k_whole); intro tk8 tk9))
local macro_rules | `(tactic| walk_at "getMethod ref") => `(tactic| (k_here; (with_reducible show wpAny _ _ (getMethod (Value.ref _) (Str.ofString "get") _) _ _ _); k_dflt (refine' methodN ?k1 ?k2 PySem.F.slot_dict_get PySem.F.type_dict_get ?_; (case k1 => k_asm); (case k2 => k_mem); k_whole)))
local macro_rules | `(tactic| walk_at "getMethod ref") => `(tactic| (k_here; (with_reducible show wpAny _ _ (getMethod (Value.ref _) (Str.ofString "pop") _) _ _ _); k_dflt (refine' methodN ?k1 ?k2 PySem.F.slot_dict_pop PySem.F.type_dict_pop ?_; (case k1 => k_asm); (case k2 => k_mem); k_whole)))
local macro_rules | `(tactic| walk_at "getMethod ref") => `(tactic| (k_here; (with_reducible show wpAny _ _ (getMethod (Value.ref _) (Str.ofString "cleanup") _) _ _ _); k_dflt (refine' kmu_own ?k1 ?k2 ?k3 ?k4 ?k5 ?_; (case k1 => k_asm); (case k2 => k_asm); (case k3 => k_inst); (case k4 => k_is); (case k5 => k_is); k_whole)))
local macro_rules | `(tactic| walk_at "call builtin:dict.get") => `(tactic| (k_here; (with_reducible show wpAny _ _ (call (Value.builtin _) [Value.ref _, _, _]) _ _ _); k_dflt (refine' get2_keyN ?k1 ?k2 ?k3 ?k4 ?k5 ?k6 ?k7 ?k8 ?_; (case k1 => k_asm); (case k2 => k_asm); (case k3 => k_mem); (case k4 => k_asm); (case k5 => k_asm); (case k6 => k_asm); (case k7 => ktr_units); (case k8 => k_asm); k_whole); intro tk9; (try dsimp only [Option.getD])))
local macro_rules | `(tactic| walk_at "call builtin:dict.pop") => `(tactic| (k_here; (with_reducible show wpAny _ _ (call (Value.builtin _) [Value.ref _, _]) _ _ _); k_dflt (refine' pop_keyN ?k1 ?k2 ?k3 ?k4 ?k5 ?k6 ?k7 ?k8 ?_; (case k1 => k_asm); (case k2 => k_asm); (case k3 => k_upd); (case k4 => k_asm); (case k5 => k_asm); (case k6 => ktr_units); (case k7 => k_asm); (case k8 => k_asm); k_whole); intro h9 tk9 F' N'; (try k_sweep)))
local macro_rules | `(tactic| walk_at "setItem ref") => `(tactic| (k_here; (with_reducible show wpAny _ _ (setItem (Value.ref _) _ _) _ _ _); k_dflt (refine' setItem_keyN ?k1 ?k2 ?k3 ?k4 ?k5 ?k6 ?k7 ?k8 ?_; (case k1 => k_asm); (case k2 => k_asm); (case k3 => k_upd); (case k4 => k_asm); (case k5 => k_asm); (case k6 => ktr_units); (case k7 => k_asm); (case k8 => k_asm); k_whole); intro h9 tk9 F' N'; (try k_sweep)))

local macro_rules | `(tactic| walk_at "callWith ref") => `(tactic| (k_here; (with_reducible show wpAny _ _ (callWith _ (Value.ref _) _ _ _) _ _ _); k_dflt (refine' callWith_fn ?a ?b ?_ ?c ?d; (case a => with_reducible assumption); (case b => rfl); (case c => rfl); (case d => rfl); k_whole)))
local macro_rules | `(tactic| walk_at "And") => `(tactic| ((with_reducible show (Heap.get? _ _ = some _) ∧ _); refine ⟨Fr.keep (by k_asm) _ _ (by with_reducible assumption), ?_⟩; (try dsimp only [List.nil_append, List.cons_append])))

local macro_rules | `(tactic| walk_at "ite") => `(tactic| first | refine PySem.W.ite_pos (by (try simp only [decide_eq_true_eq, List.length_append, List.length_cons, List.length_nil]); omega) ?_ | refine PySem.W.ite_neg (by (try simp only [decide_eq_true_eq, List.length_append, List.length_cons, List.length_nil]); omega) ?_)
local macro_rules | `(tactic| walk_at "call ref") => `(tactic| ((with_reducible show wpAny _ _ (call (Value.ref 149) _) _ _ _); refine Hold.intro ?_))
local macro_rules | `(tactic| walk_at "call ref") => `(tactic| ((with_reducible show wpAny _ _ (call (Value.ref 135) _) _ _ _); refine Hold.intro ?_))

section
variable {prog : Program} {w : World} {p : Program} {loose : List Str} {mean : ExcName → Option Value} {mg mb : Str → Option Value}

set_option maxHeartbeats 4000000 in
theorem add_more {dp un : Nat} {gd : Option (List Code)} {cn : Str} {cs : Scope} {a : Addr} {ccd : Value} {cl : List (Str × Addr)} {outer : List Env} {A₀ : Around} {base h₀ : Heap} {L : Addr} {m : Str → Option Value} {s : Shared} {Q E : Value → Shared → Prop}
    {tc1 tc2 tc3 tc4 tc5 : Tok} {c dc d : Addr} {M : Int} {tM : Tok} {af : Value} {xs : Ents} {n : Nat} {kx : Key} {key val : Value} {f : Addr} {tr1 tr2 tr3 tr4 tr5 tr6 : Tok} {r dr : Addr} {rp rn rk rv rc : Value} {l dl : Addr}
    (B : Below A₀ base outer h₀) (F : Fr h₀ L s.heap m) (X : (hd.heap_39 w.params).In h₀) (T : Top p loose mean mg mb h₀) (hk : cs.kind = .function) (hd : dp + 60 < recursionLimit) (hu : un + 700 < cLine) (hn : [c, dc, d, r, dr, l].Nodup)
    (hx : Keyed prog w s.heap xs) (hkx : IsKey prog w s.heap kx key) (hno : kx ∉ keysOf xs) (hlx : (look xs kx).isSome = false) (hxs : xs.length ≤ sizeLine) (hd0 : (d == sysModules) = false) (hx63 : (xs.length : Int) + 1 < 2 ^ 63) (hle : (xs.length : Int) + 1 ≤ M) (hlo : s.heap.get? l = some (instObj 53 dl)) (hhr : handedIn rk = true)
    (N : News h₀ L s.heap [(c, instObj 189 dc),
      (dc, cacheD w.params tc1 tc2 tc3 tc4 tc5 (.ref d) (.ref r) (.ref l) (.int M tM) af),
      (d, dictK w xs n),
      (r, instObj 53 dr),
      (dr, nodeD w.params tr1 tr2 tr3 tr4 tr5 tr6 rp rn rk rv rc)])
    (ret : ∀ h' tk' (x dx : Addr) (tx1 tx2 tx3 tx4 tx5 tx6 : Tok), Fr h₀ L h' m → News h₀ L h' [(c, instObj 189 dc),
      (dc, cacheD w.params tc1 tc2 tc3 tc4 tc5 (.ref d) (.ref x) (.ref l) (.int M tM) af),
      (d, dictK w (xs ++ [(kx, key, .ref x)]) (n + 1)),
      (x, instObj 53 dx),
      (dx, nodeD w.params tx1 tx2 tx3 tx4 tx5 tx6 .none rk key val (.ref f)),
      (r, instObj 53 dr),
      (dr, nodeD w.params tr1 tr2 tr3 tr4 tr5 tr6 (.ref x) rn rk rv rc)] → Keep s.heap h' [c, dc, d, r, dr] → NewIn s.heap [(c, instObj 189 dc),
      (dc, cacheD w.params tc1 tc2 tc3 tc4 tc5 (.ref d) (.ref x) (.ref l) (.int M tM) af),
      (d, dictK w (xs ++ [(kx, key, .ref x)]) (n + 1)),
      (x, instObj 53 dx),
      (dx, nodeD w.params tx1 tx2 tx3 tx4 tx5 tx6 .none rk key val (.ref f)),
      (r, instObj 53 dr),
      (dr, nodeD w.params tr1 tr2 tr3 tr4 tr5 tr6 (.ref x) rn rk rv rc)] [c, dc, d, r, dr] → (∀ b ∈ [c, dc, d, r, dr], b ≠ x ∧ b ≠ dx) → x ≠ dx → Q .none { s with heap := h', toks := tk' }) :
    wpAny (model prog w) (ktrTop dp un gd cn cs L a ccd cl outer) (call (.ref 101) [.ref c, key, val, .ref f]) Q E s := by
  have hn0 := hn
  simp only [List.nodup_cons, List.mem_cons, List.not_mem_nil, or_false, not_or, List.nodup_nil, not_false_eq_true, and_true] at hn
  obtain ⟨⟨n_0_1, n_0_2, n_0_3, n_0_4, n_0_5⟩, ⟨n_1_2, n_1_3, n_1_4, n_1_5⟩, ⟨n_2_3, n_2_4, n_2_5⟩, ⟨n_3_4, n_3_5⟩, n_4_5⟩ := hn
  refine wpAny_call ?_
  k_dflt ktr_enter
  rename_i g' L' h' F' N' B' X' T' kk'
  have hc9 : ∀ q9 ∈ ([(c, instObj 189 dc),
      (dc, cacheD w.params tc1 tc2 tc3 tc4 tc5 (.ref d) (.ref r) (.ref l) (.int M tM) af),
      (d, dictK w xs n),
      (r, instObj 53 dr),
      (dr, nodeD w.params tr1 tr2 tr3 tr4 tr5 tr6 rp rn rk rv rc)] : List (Addr × Obj)), q9.2.cls ≠ .type "tuple" := by simp only [List.forall_mem_cons]; simp
  have hx9 := lift_keyed hx kk' N hc9
  have hkx9 := lift_key hkx kk' N hc9
  have hlo9 := kk' _ _ hlo (by simp only [List.map_cons, List.map_nil, List.mem_cons, List.not_mem_nil, or_false, not_or]; (repeat' constructor) <;> first | assumption | exact Ne.symm (by assumption))
  clear hc9
  k_steps
  rename_i x dx h1_ l1_ l2_ g1_ L1_ h2_ B1_ X1_ T1_ tk1_ h3_ h4_ h5_ h6_ h7_ h8_ F1_ N1_ Tc1_ kX1_ h9_ h10_ tk2_ F8 N8
  have hl1_ := l1_; clear F1_ N1_
  have hxn_ : ∀ b ∈ [c, dc, d, r, dr], b ≠ x ∧ b ≠ dx := by simp only [List.forall_mem_cons]; (repeat' apply And.intro) <;> first | assumption | exact Ne.symm (by assumption) | (refine neN ?_; omega) | exact List.forall_mem_nil _
  have hxd_ : x ≠ dx := by first | assumption | exact Ne.symm (by assumption) | (refine neN ?_; omega)
  have hxl_ : x ≠ l := ne_of_ground N8 (by k_mem) hlo9
  have hdxl_ : dx ≠ l := ne_of_ground N8 (by k_mem) hlo9
  unfold held
  k_dflt (refine' ra_new B' F8 X' T' rfl ?k1 ?k2 ?k3 (F8.keep _ _ hlo9) hhr ?k4 (fun h8 tk8  F9 N9 K9  => ?k5))
  (case k4 => exact news_sub N8 (List.forall_mem_cons.mpr ⟨by k_mem, (List.forall_mem_cons.mpr ⟨by k_mem, (List.forall_mem_cons.mpr ⟨by k_mem, (List.forall_mem_cons.mpr ⟨by k_mem, (List.forall_mem_cons.mpr ⟨by k_mem, (List.forall_mem_cons.mpr ⟨by k_mem, (List.forall_mem_cons.mpr ⟨by k_mem, (List.forall_mem_nil _)⟩)⟩)⟩)⟩)⟩)⟩)⟩))
  (case k1 => (first | omega | (dsimp only [ktrTop, Around.deeper]; omega) | (show _ + 1 + _ < _; omega)))
  (case k2 => (first | omega | (dsimp only [ktrTop, Around.deeper]; omega) | (show _ + 1 + _ < _; omega)))
  (case k3 => exact (by simp only [List.nodup_cons, List.mem_cons, List.not_mem_nil, or_false, not_or, List.nodup_nil, not_false_eq_true, and_true]; (repeat' apply And.intro) <;> first | assumption | exact Ne.symm (by assumption) | (refine neN ?_; omega)))
  clear F8 N8
  try dsimp only
  k_steps
  all_goals (
    try dsimp only
    try (k_unfold; try dsimp only)
    exact ⟨_, _, _, by assumption, by assumption, fun kF kN kk kf => ret _ _ x dx _ _ _ _ _ _ kF kN kk kf hxn_ hxd_⟩)
end
end Mine
end
section
theorem Mine.off_Walk6_full1 : True := by w_top off; exact True.intro
set_option maxRecDepth 100000
set_option linter.unusedVariables false
namespace Mine
open PySem PySem.W PySem.Spec PySem.Calls PyProof.Rows
theorem fillF_Walk6_full1 : (PySem.Challenge.rw_bb0035_01 = PySem.Challenge.rw_bb0035_01) ∧ (hd.heap_39 = hd.heap_39) := by k_fill; exact ⟨rfl, rfl⟩

local macro_rules | `(tactic| k_ne) => `(tactic| first | (refine neN ?_; (try dsimp only); first | with_reducible assumption | exact Ne.symm (by with_reducible assumption) | exact ne_of_cls (by k_asm) (by k_mem) (by k_mem) (by dsimp only [tupOf, nodeD, cacheD, dictK, dictOf, instObj, W.listOf]; decide)))
local macro_rules | `(tactic| ktr_enter) => `(tactic| (refine' code_T ?k1 ?k2 ?k3 ?k4 ?k5 ?kA ?kF ?kK ?k6 ?k7 ?k8 ?k9 ?kB ?_ ?c2 ?c3 ?c4 ?c5; (case kA => exact rfl); (case kF => exact rfl); (case kK => assumption); (case k1 => k_asm); (case k2 => k_asm); (case k3 => k_asm); (case k4 => k_asm); (case k5 => k_asm); (case k6 => k_is); (case k7 => k_is); (case k8 => ktr_room); (case k9 => first | exact BindsTo.of_eq rfl | exact binds_K (by k_in) rfl (by k_is) rfl rfl rfl); (case c5 => decide); (case kB => exact locs rfl); (case c2 => exact rfl); (case c3 => exact rfl); (case c4 => exact rfl); k_whole; intro g' L' h' F' N' B' X' T' kk'; (try dsimp only); (try k_fold)))
local macro_rules | `(tactic| k_room) => `(tactic| ktr_room)
local macro_rules | `(tactic| k_units) => `(tactic| ktr_units)
local macro_rules | `(tactic| k_handed) => `(tactic| with_reducible assumption)
local macro_rules | `(tactic| walk_at "subscriptTail") => `(tactic| (k_here; (with_reducible show wpAny _ _ (subscriptTail _ _ (Value.ref _) _) _ _ _); k_dflt (refine' sub_key ?k1 ?k2 ?k3 ?k4 ?k5 ?k6 ?k7 ?k8 ?_; (case k1 => k_asm); (case k2 => k_asm); (case k3 => k_mem); (case k4 => k_asm); (case k5 => k_asm); (case k6 => k_asm); (case k7 => ktr_units); (case k8 => with_unfolding_all rfl); k_whole); intro tk9))
local macro_rules | `(tactic| walk_at "compareOp IsNot") => `(tactic| (k_here; (with_reducible show wpAny _ _ (compareOp CmpOp.IsNot _ Value.none) _ _ _); k_dflt (refine' isNot_key_none ?a ?_; (case a => with_reducible assumption); k_whole)))
local macro_rules | `(tactic| walk_at "compareOp Is") => `(tactic| (k_here; (with_reducible show wpAny _ _ (compareOp CmpOp.Is _ Value.none) _ _ _); k_dflt (refine' is_key_none ?a ?_; (case a => with_reducible assumption); k_whole)))
local macro_rules | `(tactic| walk_at "compareOp Is ref ref") => `(tactic| (k_here; (with_reducible show wpAny _ _ (compareOp CmpOp.Is (Value.ref _) (Value.ref _)) _ _ _); k_dflt (refine' is_ref_ne ?a ?b ?c ?d ?_; (case a => first | with_reducible assumption | exact Ne.symm (by with_reducible assumption)); (case b => first | exact News.get (by k_asm) (by k_mem) | exact Fr.keep (by k_asm) _ _ (by with_reducible assumption)); (case c => first | exact News.get (by k_asm) (by k_mem) | exact Fr.keep (by k_asm) _ _ (by with_reducible assumption)); (case d => intro q9; cases q9); k_whole)))
local macro_rules | `(tactic| walk_at "compareOp In") => `(tactic| (k_here; (with_reducible show wpAny _ _ (compareOp CmpOp.In _ (Value.ref _)) _ _ _); k_dflt (refine' in_keyN ?k1 ?k2 ?k3 ?k4 ?k5 ?k6 ?k7 _ ?k8 ?_; (case k1 => k_asm); (case k2 => k_asm); (case k3 => k_mem); (case k4 => k_asm); (case k5 => k_asm); (case k6 => k_asm); (case k7 => ktr_units); (case k8 => with_reducible assumption); k_whole); intro tk9))
local macro_rules | `(tactic| walk_at "call builtin:len") => `(tactic| (k_here; (with_reducible show wpAny _ _ (call (Value.builtin "len") [Value.ref _]) _ _ _); k_dflt (refine' len_keyN ?k1 ?k2 ?k3 ?k4 ?_; (case k1 => k_asm); (case k2 => k_mem); (case k3 => k_asm); (case k4 => first | with_reducible assumption | (simp only [List.length_append, List.length_cons, List.length_nil]; omega) | omega); k_whole); intro tk8 tk9))
local macro_rules | `(tactic| walk_at "getMethod ref") => `(tactic| (k_here; (with_reducible show wpAny _ _ (getMethod (Value.ref _) (Str.ofString "get") _) _ _ _); k_dflt (refine' methodN ?k1 ?k2 PySem.F.slot_dict_get PySem.F.type_dict_get ?_; (case k1 => k_asm); (case k2 => k_mem); k_whole)))
local macro_rules | `(tactic| walk_at "getMethod ref") => `(tactic| (k_here; (with_reducible show wpAny _ _ (getMethod (Value.ref _) (Str.ofString "pop") _) _ _ _); k_dflt (refine' methodN ?k1 ?k2 PySem.F.slot_dict_pop PySem.F.type_dict_pop ?_; (case k1 => k_asm); (case k2 => k_mem); k_whole)))
local macro_rules | `(tactic| walk_at "getMethod ref") => `(tactic| (k_here; (with_reducible show wpAny _ _ (getMethod (Value.ref _) (Str.ofString "cleanup") _) _ _ _); k_dflt (refine' kmu_own ?k1 ?k2 ?k3 ?k4 ?k5 ?_; (case k1 => k_asm); (case k2 => k_asm); (case k3 => k_inst); (case k4 => k_is); (case k5 => k_is); k_whole)))
local macro_rules | `(tactic| walk_at "call builtin:dict.get") => `(tactic| (k_here; (with_reducible show wpAny _ _ (call (Value.builtin _) [Value.ref _, _, _]) _ _ _); k_dflt (refine' get2_keyN ?k1 ?k2 ?k3 ?k4 ?k5 ?k6 ?k7 ?k8 ?_; (case k1 => k_asm); (case k2 => k_asm); (case k3 => k_mem); (case k4 => k_asm); (case k5 => k_asm); (case k6 => k_asm); (case k7 => ktr_units); (case k8 => k_asm); k_whole); intro tk9; (try dsimp only [Option.getD])))
local macro_rules | `(tactic| walk_at "call builtin:dict.pop") => `(tactic| (k_here; (with_reducible show wpAny _ _ (call (Value.builtin _) [Value.ref _, _]) _ _ _); k_dflt (refine' pop_keyN ?k1 ?k2 ?k3 ?k4 ?k5 ?k6 ?k7 ?k8 ?_; (case k1 => k_asm); (case k2 => k_asm); (case k3 => k_upd); (case k4 => k_asm); (case k5 => k_asm); (case k6 => ktr_units); (case k7 => k_asm); (case k8 => k_asm); k_whole); intro h9 tk9 F' N'; (try k_sweep)))
local macro_rules | `(tactic| walk_at "setItem ref") => `(tactic| (k_here; (with_reducible show wpAny _ _ (setItem (Value.ref _) _ _) _ _ _); k_dflt (refine' setItem_keyN ?k1 ?k2 ?k3 ?k4 ?k5 ?k6 ?k7 ?k8 ?_; (case k1 => k_asm); (case k2 => k_asm); (case k3 => k_upd); (case k4 => k_asm); (case k5 => k_asm); (case k6 => ktr_units); (case k7 => k_asm); (case k8 => k_asm); k_whole); intro h9 tk9 F' N'; (try k_sweep)))

local macro_rules | `(tactic| walk_at "callWith ref") => `(tactic| (k_here; (with_reducible show wpAny _ _ (callWith _ (Value.ref _) _ _ _) _ _ _); k_dflt (refine' callWith_fn ?a ?b ?_ ?c ?d; (case a => with_reducible assumption); (case b => rfl); (case c => rfl); (case d => rfl); k_whole)))
local macro_rules | `(tactic| walk_at "And") => `(tactic| ((with_reducible show (Heap.get? _ _ = some _) ∧ _); refine ⟨Fr.keep (by k_asm) _ _ (by with_reducible assumption), ?_⟩; (try dsimp only [List.nil_append, List.cons_append])))

local macro_rules | `(tactic| walk_at "ite") => `(tactic| first | refine PySem.W.ite_pos (by (try simp only [decide_eq_true_eq, List.length_append, List.length_cons, List.length_nil]); omega) ?_ | refine PySem.W.ite_neg (by (try simp only [decide_eq_true_eq, List.length_append, List.length_cons, List.length_nil]); omega) ?_)
local macro_rules | `(tactic| walk_at "call ref") => `(tactic| ((with_reducible show wpAny _ _ (call (Value.ref 149) _) _ _ _); refine Hold.intro ?_))
local macro_rules | `(tactic| walk_at "call ref") => `(tactic| ((with_reducible show wpAny _ _ (call (Value.ref 135) _) _ _ _); refine Hold.intro ?_))

section
variable {prog : Program} {w : World} {p : Program} {loose : List Str} {mean : ExcName → Option Value} {mg mb : Str → Option Value}

set_option maxHeartbeats 4000000 in
theorem add_full1 {dp un : Nat} {gd : Option (List Code)} {cn : Str} {cs : Scope} {a : Addr} {ccd : Value} {cl : List (Str × Addr)} {outer : List Env} {A₀ : Around} {base h₀ : Heap} {L : Addr} {m : Str → Option Value} {s : Shared} {Q E : Value → Shared → Prop}
    {tc1 tc2 tc3 tc4 tc5 : Tok} {c dc d : Addr} {M : Int} {tM : Tok} {ta : Tok} {xs : Ents} {n : Nat} {kx : Key} {key val : Value} {f : Addr} {kl : Key} {tr1 tr2 tr3 tr4 tr5 tr6 : Tok} {r dr : Addr} {rp rk rv : Value} {f0 gk c2 cg ck lg : Addr} {k : Int} {qual : Str} {pm ctv : Value} {gs : List Value} {its : Array Value} {ng : Nat}
    (B : Below A₀ base outer h₀) (F : Fr h₀ L s.heap m) (X : (hd.heap_39 w.params).In h₀) (T : Top p loose mean mg mb h₀) (hk : cs.kind = .function) (hd : dp + 60 < recursionLimit) (hu : un + 700 < cLine) (hn : [c, dc, d, r, dr, gk, f0, c2, cg, ck, lg].Nodup)
    (hx : Keyed prog w s.heap xs) (hkx : IsKey prog w s.heap kx key) (hno : kx ∉ keysOf xs) (hlx : (look xs kx).isSome = false) (hxs : xs.length ≤ sizeLine) (hd0 : (d == sysModules) = false) (hx63 : (xs.length : Int) + 1 < 2 ^ 63) (tl : TellerAt s.heap f0 k gk qual pm ctv c2 cg ck lg gs) (hsz : its.size ≤ sizeLine) (hkl : IsKey prog w s.heap kl rk) (hll : look xs kl = some (.ref r)) (hhr : handedIn rk = true) (hhl : handedIn rk = true) (hhv : handedIn rv = true) (hlen : (xs.length : Int) = M) (hxs1 : xs.length + 1 ≤ sizeLine)
    (N : News h₀ L s.heap [(c, instObj 189 dc),
      (dc, cacheD w.params tc1 tc2 tc3 tc4 tc5 (.ref d) (.ref r) (.ref r) (.int M tM) (.int M ta)),
      (d, dictK w xs n),
      (r, instObj 53 dr),
      (dr, nodeD w.params tr1 tr2 tr3 tr4 tr5 tr6 rp .none rk rv (.ref f0)),
      (gk, listOf its ng)])
    (ret : ∀ h' tk' (x dx t : Addr) (tx1 tx2 tx3 tx4 tx5 tx6 : Tok), Fr h₀ L h' m → News h₀ L h' [(t, tupOf [rk, rv]),
      (gk, listOf (its.push (.ref t)) (ng + 1)),
      (r, instObj 53 dr),
      (dr, nodeD w.params tr1 tr2 tr3 tr4 tr5 tr6 .none .none rk .none .none),
      (c, instObj 189 dc),
      (dc, cacheD w.params tc1 tc2 tc3 tc4 tc5 (.ref d) (.ref x) (.ref x) (.int M tM) (.int M ta)),
      (d, dictK w (dropK (xs ++ [(kx, key, .ref x)]) kl) (n + 1 + 1)),
      (x, instObj 53 dx),
      (dx, nodeD w.params tx1 tx2 tx3 tx4 tx5 tx6 .none .none key val (.ref f))] → Keep s.heap h' [c, dc, d, r, dr, gk] → NewIn s.heap [(t, tupOf [rk, rv]),
      (gk, listOf (its.push (.ref t)) (ng + 1)),
      (r, instObj 53 dr),
      (dr, nodeD w.params tr1 tr2 tr3 tr4 tr5 tr6 .none .none rk .none .none),
      (c, instObj 189 dc),
      (dc, cacheD w.params tc1 tc2 tc3 tc4 tc5 (.ref d) (.ref x) (.ref x) (.int M tM) (.int M ta)),
      (d, dictK w (dropK (xs ++ [(kx, key, .ref x)]) kl) (n + 1 + 1)),
      (x, instObj 53 dx),
      (dx, nodeD w.params tx1 tx2 tx3 tx4 tx5 tx6 .none .none key val (.ref f))] [c, dc, d, r, dr, gk] → (∀ b ∈ [c, dc, d, r, dr, gk], b ≠ x ∧ b ≠ dx) → x ≠ dx → Q .none { s with heap := h', toks := tk' }) :
    wpAny (model prog w) (ktrTop dp un gd cn cs L a ccd cl outer) (call (.ref 101) [.ref c, key, val, .ref f]) Q E s := by
  have hn0 := hn
  simp only [List.nodup_cons, List.mem_cons, List.not_mem_nil, or_false, not_or, List.nodup_nil, not_false_eq_true, and_true] at hn
  obtain ⟨⟨n_0_1, n_0_2, n_0_3, n_0_4, n_0_5, n_0_6, n_0_7, n_0_8, n_0_9, n_0_10⟩, ⟨n_1_2, n_1_3, n_1_4, n_1_5, n_1_6, n_1_7, n_1_8, n_1_9, n_1_10⟩, ⟨n_2_3, n_2_4, n_2_5, n_2_6, n_2_7, n_2_8, n_2_9, n_2_10⟩, ⟨n_3_4, n_3_5, n_3_6, n_3_7, n_3_8, n_3_9, n_3_10⟩, ⟨n_4_5, n_4_6, n_4_7, n_4_8, n_4_9, n_4_10⟩, ⟨n_5_6, n_5_7, n_5_8, n_5_9, n_5_10⟩, ⟨n_6_7, n_6_8, n_6_9, n_6_10⟩, ⟨n_7_8, n_7_9, n_7_10⟩, ⟨n_8_9, n_8_10⟩, n_9_10⟩ := hn
  refine wpAny_call ?_
  k_dflt ktr_enter
  rename_i g' L' h' F' N' B' X' T' kk'
  have hc9 : ∀ q9 ∈ ([(c, instObj 189 dc),
      (dc, cacheD w.params tc1 tc2 tc3 tc4 tc5 (.ref d) (.ref r) (.ref r) (.int M tM) (.int M ta)),
      (d, dictK w xs n),
      (r, instObj 53 dr),
      (dr, nodeD w.params tr1 tr2 tr3 tr4 tr5 tr6 rp .none rk rv (.ref f0)),
      (gk, listOf its ng)] : List (Addr × Obj)), q9.2.cls ≠ .type "tuple" := by simp only [List.forall_mem_cons]; simp
  have hx9 := lift_keyed hx kk' N hc9
  have hkx9 := lift_key hkx kk' N hc9
  have tl9 := tl.lift kk' (off_of_nodup (ads := [c, dc, d, r, dr, gk]) hn0)
  have hfn9 := tl9.fn
  have hkl9 := lift_key hkl kk' N hc9
  clear hc9
  k_steps
  rename_i x dx h1_ l1_ l2_ g1_ L1_ h2_ B1_ X1_ T1_ tk1_ h3_ h4_ h5_ h6_ h7_ h8_ F1_ N1_ Tc1_ kX1_ h9_ h10_ tk2_ F8 N8
  have hl1_ := l1_; clear F1_ N1_
  have hxn_ : ∀ b ∈ [c, dc, d, r, dr, gk], b ≠ x ∧ b ≠ dx := by simp only [List.forall_mem_cons]; (repeat' apply And.intro) <;> first | assumption | exact Ne.symm (by assumption) | (refine neN ?_; omega) | exact List.forall_mem_nil _
  have hxd_ : x ≠ dx := by first | assumption | exact Ne.symm (by assumption) | (refine neN ?_; omega)
  obtain ⟨oc2_, hc2_⟩ := code_get tl9.code
  obtain ⟨ogg_, hgg_, _⟩ := id tl9.gone
  obtain ⟨okk_, _, hkk_, _⟩ := id tl9.kc
  obtain ⟨oll_, hll_, _⟩ := id tl9.list
  have e1_ : x ≠ f0 := ne_of_ground N8 (by k_mem) tl9.fn
  have e2_ : dx ≠ f0 := ne_of_ground N8 (by k_mem) tl9.fn
  have e3_ : x ≠ c2 := ne_of_ground N8 (by k_mem) hc2_
  have e4_ : dx ≠ c2 := ne_of_ground N8 (by k_mem) hc2_
  have e5_ : x ≠ cg := ne_of_ground N8 (by k_mem) hgg_
  have e6_ : dx ≠ cg := ne_of_ground N8 (by k_mem) hgg_
  have e7_ : x ≠ ck := ne_of_ground N8 (by k_mem) hkk_
  have e8_ : dx ≠ ck := ne_of_ground N8 (by k_mem) hkk_
  have e9_ : x ≠ lg := ne_of_ground N8 (by k_mem) hll_
  have e0_ : dx ≠ lg := ne_of_ground N8 (by k_mem) hll_
  unfold held
  k_dflt (refine' ra_new1 B' F8 X' T' rfl ?k1 ?k2 ?k3 hhr ?k4 (fun h8 tk8  F9 N9 K9  => ?k5))
  (case k4 => exact news_sub N8 (List.forall_mem_cons.mpr ⟨by k_mem, (List.forall_mem_cons.mpr ⟨by k_mem, (List.forall_mem_cons.mpr ⟨by k_mem, (List.forall_mem_cons.mpr ⟨by k_mem, (List.forall_mem_cons.mpr ⟨by k_mem, (List.forall_mem_cons.mpr ⟨by k_mem, (List.forall_mem_cons.mpr ⟨by k_mem, (List.forall_mem_nil _)⟩)⟩)⟩)⟩)⟩)⟩)⟩))
  (case k1 => (first | omega | (dsimp only [ktrTop, Around.deeper]; omega) | (show _ + 1 + _ < _; omega)))
  (case k2 => (first | omega | (dsimp only [ktrTop, Around.deeper]; omega) | (show _ + 1 + _ < _; omega)))
  (case k3 => exact (by simp only [List.nodup_cons, List.mem_cons, List.not_mem_nil, or_false, not_or, List.nodup_nil, not_false_eq_true, and_true]; (repeat' apply And.intro) <;> first | assumption | exact Ne.symm (by assumption) | (refine neN ?_; omega)))
  have N9 := news_app N9 N8 K9 (rest := [(gk, _)]) (List.forall_mem_cons.mpr ⟨by k_mem, (List.forall_mem_nil _)⟩) (List.forall_mem_cons.mpr ⟨(by (try dsimp only); simp only [List.mem_cons, List.not_mem_nil, or_false, not_or]; (repeat' apply And.intro) <;> first | assumption | exact Ne.symm (by assumption) | (refine neN ?_; omega)), (List.forall_mem_nil _)⟩)
  simp only [List.cons_append, List.nil_append] at N9
  clear F8 N8
  try dsimp only
  k_steps
  (rename Fr _ _ _ _ => F8); (rename News _ _ _ _ => N8)
  have hml_ := look_some_mem (look_snoc (kx, key, .ref x) hll)
  have hdl_ := dropK_len (keyed_snoc (v := .ref x) hx9 hkx9 hno).nodup hml_
  have hln_ : (xs ++ [(kx, key, Value.ref x)]).length = xs.length + 1 := by simp
  have hxs1_ : (xs ++ [(kx, key, Value.ref x)]).length ≤ sizeLine := by rw [hln_]; exact hxs1
  have hx1_ : ((xs ++ [(kx, key, Value.ref x)]).length : Int) < 2 ^ 63 := by rw [hln_]; omega
  have hd1_ : ((dropK (xs ++ [(kx, key, Value.ref x)]) kl).length : Int) < 2 ^ 63 := by omega
  have hx2_ : M < ((xs ++ [(kx, key, Value.ref x)]).length : Int) := by rw [hln_]; omega
  have hd2_ : ((dropK (xs ++ [(kx, key, Value.ref x)]) kl).length : Int) ≤ M := by omega
  unfold held
  k_dflt (refine' cu B' F8 X' T' rfl ?j1 ?j2 ?j3 (tl9.keeps F8.keep) hsz ((keyed_snoc (v := .ref x) hx9 hkx9 hno).keeps F8.keep) (hkl9.keeps F8.keep) (look_snoc _ hll) hxs1_ hhl hhv hd0 hx1_ hd1_ hx2_ hd2_ ?j4 (fun h8 tk8 t F9 N9 K9 Z9 => ?j5))
  (case j4 => exact news_sub N8 (List.forall_mem_cons.mpr ⟨by k_mem, (List.forall_mem_cons.mpr ⟨by k_mem, (List.forall_mem_cons.mpr ⟨by k_mem, (List.forall_mem_cons.mpr ⟨by k_mem, (List.forall_mem_cons.mpr ⟨by k_mem, (List.forall_mem_cons.mpr ⟨by k_mem, (List.forall_mem_cons.mpr ⟨by k_mem, (List.forall_mem_cons.mpr ⟨by k_mem, (List.forall_mem_nil _)⟩)⟩)⟩)⟩)⟩)⟩)⟩)⟩))
  (case j1 => (first | omega | (dsimp only [ktrTop, Around.deeper]; omega) | (show _ + 1 + _ < _; omega)))
  (case j2 => (first | omega | (dsimp only [ktrTop, Around.deeper]; omega) | (show _ + 1 + _ < _; omega)))
  (case j3 => exact (by simp only [List.nodup_cons, List.mem_cons, List.not_mem_nil, or_false, not_or, List.nodup_nil, not_false_eq_true, and_true]; (repeat' apply And.intro) <;> first | assumption | exact Ne.symm (by assumption) | (refine neN ?_; omega)))
  clear F8 N8
  try dsimp only
  k_steps
  all_goals (
    try dsimp only
    try (k_unfold; try dsimp only)
    exact ⟨_, _, _, by assumption, by assumption, fun kF kN kk kf => ret _ _ x dx t _ _ _ _ _ _ kF kN kk kf hxn_ hxd_⟩)
end
end Mine
end
section
theorem Mine.off_Walk6_full2 : True := by w_top off; exact True.intro
local macro_rules | `(tactic| walk_at "no such word") => `(tactic| fail "no step")
set_option maxRecDepth 100000
set_option linter.unusedVariables false
namespace Mine
open PySem PySem.W PySem.Spec PySem.Calls PyProof.Rows
theorem fillF_Walk6_full2 : (PySem.Challenge.rw_bb0035_01 = PySem.Challenge.rw_bb0035_01) ∧ (hd.heap_39 = hd.heap_39) := by k_fill; exact ⟨rfl, rfl⟩

local macro_rules | `(tactic| k_ne) => `(tactic| first | (refine neN ?_; (try dsimp only); first | with_reducible assumption | exact Ne.symm (by with_reducible assumption) | exact ne_of_cls (by k_asm) (by k_mem) (by k_mem) (by dsimp only [tupOf, nodeD, cacheD, dictK, dictOf, instObj, W.listOf]; decide)))
local macro_rules | `(tactic| ktr_enter) => `(tactic| (refine' code_T ?k1 ?k2 ?k3 ?k4 ?k5 ?kA ?kF ?kK ?k6 ?k7 ?k8 ?k9 ?kB ?_ ?c2 ?c3 ?c4 ?c5; (case kA => exact rfl); (case kF => exact rfl); (case kK => assumption); (case k1 => k_asm); (case k2 => k_asm); (case k3 => k_asm); (case k4 => k_asm); (case k5 => k_asm); (case k6 => k_is); (case k7 => k_is); (case k8 => ktr_room); (case k9 => first | exact BindsTo.of_eq rfl | exact binds_K (by k_in) rfl (by k_is) rfl rfl rfl); (case c5 => decide); (case kB => exact locs rfl); (case c2 => exact rfl); (case c3 => exact rfl); (case c4 => exact rfl); k_whole; intro g' L' h' F' N' B' X' T' kk'; (try dsimp only); (try k_fold)))
local macro_rules | `(tactic| k_room) => `(tactic| ktr_room)
local macro_rules | `(tactic| k_units) => `(tactic| ktr_units)
local macro_rules | `(tactic| k_handed) => `(tactic| with_reducible assumption)
local macro_rules | `(tactic| walk_at "subscriptTail") => `(tactic| (k_here; (with_reducible show wpAny _ _ (subscriptTail _ _ (Value.ref _) _) _ _ _); k_dflt (refine' sub_key ?k1 ?k2 ?k3 ?k4 ?k5 ?k6 ?k7 ?k8 ?_; (case k1 => k_asm); (case k2 => k_asm); (case k3 => k_mem); (case k4 => k_asm); (case k5 => k_asm); (case k6 => k_asm); (case k7 => ktr_units); (case k8 => with_unfolding_all rfl); k_whole); intro tk9))
local macro_rules | `(tactic| walk_at "compareOp IsNot") => `(tactic| (k_here; (with_reducible show wpAny _ _ (compareOp CmpOp.IsNot _ Value.none) _ _ _); k_dflt (refine' isNot_key_none ?a ?_; (case a => with_reducible assumption); k_whole)))
local macro_rules | `(tactic| walk_at "compareOp Is") => `(tactic| (k_here; (with_reducible show wpAny _ _ (compareOp CmpOp.Is _ Value.none) _ _ _); k_dflt (refine' is_key_none ?a ?_; (case a => with_reducible assumption); k_whole)))
local macro_rules | `(tactic| walk_at "compareOp Is ref ref") => `(tactic| (k_here; (with_reducible show wpAny _ _ (compareOp CmpOp.Is (Value.ref _) (Value.ref _)) _ _ _); k_dflt (refine' is_ref_ne ?a ?b ?c ?d ?_; (case a => first | with_reducible assumption | exact Ne.symm (by with_reducible assumption)); (case b => first | exact News.get (by k_asm) (by k_mem) | exact Fr.keep (by k_asm) _ _ (by with_reducible assumption)); (case c => first | exact News.get (by k_asm) (by k_mem) | exact Fr.keep (by k_asm) _ _ (by with_reducible assumption)); (case d => intro q9; cases q9); k_whole)))
local macro_rules | `(tactic| walk_at "compareOp In") => `(tactic| (k_here; (with_reducible show wpAny _ _ (compareOp CmpOp.In _ (Value.ref _)) _ _ _); k_dflt (refine' in_keyN ?k1 ?k2 ?k3 ?k4 ?k5 ?k6 ?k7 _ ?k8 ?_; (case k1 => k_asm); (case k2 => k_asm); (case k3 => k_mem); (case k4 => k_asm); (case k5 => k_asm); (case k6 => k_asm); (case k7 => ktr_units); (case k8 => with_reducible assumption); k_whole); intro tk9))
local macro_rules | `(tactic| walk_at "call builtin:len") => `(tactic| (k_here; (with_reducible show wpAny _ _ (call (Value.builtin "len") [Value.ref _]) _ _ _); k_dflt (refine' len_keyN ?k1 ?k2 ?k3 ?k4 ?_; (case k1 => k_asm); (case k2 => k_mem); (case k3 => k_asm); (case k4 => first | with_reducible assumption | (simp only [List.length_append, List.length_cons, List.length_nil]; omega) | omega); k_whole); intro tk8 tk9))
local macro_rules | `(tactic| walk_at "getMethod ref") => `(tactic| (k_here; (with_reducible show wpAny _ _ (getMethod (Value.ref _) (Str.ofString "get") _) _ _ _); k_dflt (refine' methodN ?k1 ?k2 PySem.F.slot_dict_get PySem.F.type_dict_get ?_; (case k1 => k_asm); (case k2 => k_mem); k_whole)))
local macro_rules | `(tactic| walk_at "getMethod ref") => `(tactic| (k_here; (with_reducible show wpAny _ _ (getMethod (Value.ref _) (Str.ofString "pop") _) _ _ _); k_dflt (refine' methodN ?k1 ?k2 PySem.F.slot_dict_pop PySem.F.type_dict_pop ?_; (case k1 => k_asm); (case k2 => k_mem); k_whole)))
local macro_rules | `(tactic| walk_at "getMethod ref") => `(tactic| (k_here; (with_reducible show wpAny _ _ (getMethod (Value.ref _) (Str.ofString "cleanup") _) _ _ _); k_dflt (refine' kmu_own ?k1 ?k2 ?k3 ?k4 ?k5 ?_; (case k1 => k_asm); (case k2 => k_asm); (case k3 => k_inst); (case k4 => k_is); (case k5 => k_is); k_whole)))
local macro_rules | `(tactic| walk_at "call builtin:dict.get") => `(tactic| (k_here; (with_reducible show wpAny _ _ (call (Value.builtin _) [Value.ref _, _, _]) _ _ _); k_dflt (refine' get2_keyN ?k1 ?k2 ?k3 ?k4 ?k5 ?k6 ?k7 ?k8 ?_; (case k1 => k_asm); (case k2 => k_asm); (case k3 => k_mem); (case k4 => k_asm); (case k5 => k_asm); (case k6 => k_asm); (case k7 => ktr_units); (case k8 => k_asm); k_whole); intro tk9; (try dsimp only [Option.getD])))
local macro_rules | `(tactic| walk_at "call builtin:dict.pop") => `(tactic| (k_here; (with_reducible show wpAny _ _ (call (Value.builtin _) [Value.ref _, _]) _ _ _); k_dflt (refine' pop_keyN ?k1 ?k2 ?k3 ?k4 ?k5 ?k6 ?k7 ?k8 ?_; (case k1 => k_asm); (case k2 => k_asm); (case k3 => k_upd); (case k4 => k_asm); (case k5 => k_asm); (case k6 => ktr_units); (case k7 => k_asm); (case k8 => k_asm); k_whole); intro h9 tk9 F' N'; (try k_sweep)))
local macro_rules | `(tactic| walk_at "setItem ref") => `(tactic| (k_here; (with_reducible show wpAny _ _ (setItem (Value.ref _) _ _) _ _ _); k_dflt (refine' setItem_keyN ?k1 ?k2 ?k3 ?k4 ?k5 ?k6 ?k7 ?k8 ?_; (case k1 => k_asm); (case k2 => k_asm); (case k3 => k_upd); (case k4 => k_asm); (case k5 => k_asm); (case k6 => ktr_units); (case k7 => k_asm); (case k8 => k_asm); k_whole); intro h9 tk9 F' N'; (try k_sweep)))

local macro_rules | `(tactic| walk_at "callWith ref") => `(tactic| (k_here; (with_reducible show wpAny _ _ (callWith _ (Value.ref _) _ _ _) _ _ _); k_dflt (refine' callWith_fn ?a ?b ?_ ?c ?d; (case a => with_reducible assumption); (case b => rfl); (case c => rfl); (case d => rfl); k_whole)))
local macro_rules | `(tactic| walk_at "And") => `(tactic| ((with_reducible show (Heap.get? _ _ = some _) ∧ _); refine ⟨Fr.keep (by k_asm) _ _ (by with_reducible assumption), ?_⟩; (try dsimp only [List.nil_append, List.cons_append])))

local macro_rules | `(tactic| walk_at "ite") => `(tactic| first | refine PySem.W.ite_pos (by (try simp only [decide_eq_true_eq, List.length_append, List.length_cons, List.length_nil]); omega) ?_ | refine PySem.W.ite_neg (by (try simp only [decide_eq_true_eq, List.length_append, List.length_cons, List.length_nil]); omega) ?_)
local macro_rules | `(tactic| walk_at "call ref") => `(tactic| ((with_reducible show wpAny _ _ (call (Value.ref 149) _) _ _ _); refine Hold.intro ?_))
local macro_rules | `(tactic| walk_at "call ref") => `(tactic| ((with_reducible show wpAny _ _ (call (Value.ref 135) _) _ _ _); refine Hold.intro ?_))

section
variable {prog : Program} {w : World} {p : Program} {loose : List Str} {mean : ExcName → Option Value} {mg mb : Str → Option Value}

set_option maxHeartbeats 4000000 in
theorem add_full2 {dp un : Nat} {gd : Option (List Code)} {cn : Str} {cs : Scope} {a : Addr} {ccd : Value} {cl : List (Str × Addr)} {outer : List Env} {A₀ : Around} {base h₀ : Heap} {L : Addr} {m : Str → Option Value} {s : Shared} {Q E : Value → Shared → Prop}
    {tc1 tc2 tc3 tc4 tc5 : Tok} {c dc d : Addr} {M : Int} {tM : Tok} {ta : Tok} {xs : Ents} {n : Nat} {kx : Key} {key val : Value} {f : Addr} {kl : Key} {tr1 tr2 tr3 tr4 tr5 tr6 tl1 tl2 tl3 tl4 tl5 tl6 : Tok} {r dr : Addr} {rp rn rk rv rc : Value} {l dl : Addr} {lk lv : Value} {f0 gk c2 cg ck lg : Addr} {k : Int} {qual : Str} {pm ctv : Value} {gs : List Value} {its : Array Value} {ng : Nat}
    (B : Below A₀ base outer h₀) (F : Fr h₀ L s.heap m) (X : (hd.heap_39 w.params).In h₀) (T : Top p loose mean mg mb h₀) (hk : cs.kind = .function) (hd : dp + 60 < recursionLimit) (hu : un + 700 < cLine) (hn : [c, dc, d, r, dr, l, dl, gk, f0, c2, cg, ck, lg].Nodup)
    (hx : Keyed prog w s.heap xs) (hkx : IsKey prog w s.heap kx key) (hno : kx ∉ keysOf xs) (hlx : (look xs kx).isSome = false) (hxs : xs.length ≤ sizeLine) (hd0 : (d == sysModules) = false) (hx63 : (xs.length : Int) + 1 < 2 ^ 63) (tl : TellerAt s.heap f0 k gk qual pm ctv c2 cg ck lg gs) (hsz : its.size ≤ sizeLine) (hkl : IsKey prog w s.heap kl lk) (hll : look xs kl = some (.ref l)) (hhr : handedIn rk = true) (hhl : handedIn lk = true) (hhv : handedIn lv = true) (hlen : (xs.length : Int) = M) (hxs1 : xs.length + 1 ≤ sizeLine)
    (N : News h₀ L s.heap [(c, instObj 189 dc),
      (dc, cacheD w.params tc1 tc2 tc3 tc4 tc5 (.ref d) (.ref r) (.ref l) (.int M tM) (.int M ta)),
      (d, dictK w xs n),
      (r, instObj 53 dr),
      (dr, nodeD w.params tr1 tr2 tr3 tr4 tr5 tr6 rp rn rk rv rc),
      (l, instObj 53 dl),
      (dl, nodeD w.params tl1 tl2 tl3 tl4 tl5 tl6 (.ref r) .none lk lv (.ref f0)),
      (gk, listOf its ng)])
    (ret : ∀ h' tk' (x dx t : Addr) (tx1 tx2 tx3 tx4 tx5 tx6 : Tok), Fr h₀ L h' m → News h₀ L h' [(t, tupOf [lk, lv]),
      (gk, listOf (its.push (.ref t)) (ng + 1)),
      (l, instObj 53 dl),
      (dl, nodeD w.params tl1 tl2 tl3 tl4 tl5 tl6 .none .none lk .none .none),
      (c, instObj 189 dc),
      (dc, cacheD w.params tc1 tc2 tc3 tc4 tc5 (.ref d) (.ref x) (.ref r) (.int M tM) (.int M ta)),
      (d, dictK w (dropK (xs ++ [(kx, key, .ref x)]) kl) (n + 1 + 1)),
      (r, instObj 53 dr),
      (dr, nodeD w.params tr1 tr2 tr3 tr4 tr5 tr6 (.ref x) .none rk rv rc),
      (x, instObj 53 dx),
      (dx, nodeD w.params tx1 tx2 tx3 tx4 tx5 tx6 .none rk key val (.ref f))] → Keep s.heap h' [c, dc, d, r, dr, l, dl, gk] → NewIn s.heap [(t, tupOf [lk, lv]),
      (gk, listOf (its.push (.ref t)) (ng + 1)),
      (l, instObj 53 dl),
      (dl, nodeD w.params tl1 tl2 tl3 tl4 tl5 tl6 .none .none lk .none .none),
      (c, instObj 189 dc),
      (dc, cacheD w.params tc1 tc2 tc3 tc4 tc5 (.ref d) (.ref x) (.ref r) (.int M tM) (.int M ta)),
      (d, dictK w (dropK (xs ++ [(kx, key, .ref x)]) kl) (n + 1 + 1)),
      (r, instObj 53 dr),
      (dr, nodeD w.params tr1 tr2 tr3 tr4 tr5 tr6 (.ref x) .none rk rv rc),
      (x, instObj 53 dx),
      (dx, nodeD w.params tx1 tx2 tx3 tx4 tx5 tx6 .none rk key val (.ref f))] [c, dc, d, r, dr, l, dl, gk] → (∀ b ∈ [c, dc, d, r, dr, l, dl, gk], b ≠ x ∧ b ≠ dx) → x ≠ dx → Q .none { s with heap := h', toks := tk' }) :
    wpAny (model prog w) (ktrTop dp un gd cn cs L a ccd cl outer) (call (.ref 101) [.ref c, key, val, .ref f]) Q E s := by
  have hn0 := hn
  simp only [List.nodup_cons, List.mem_cons, List.not_mem_nil, or_false, not_or, List.nodup_nil, not_false_eq_true, and_true] at hn
  obtain ⟨⟨n_0_1, n_0_2, n_0_3, n_0_4, n_0_5, n_0_6, n_0_7, n_0_8, n_0_9, n_0_10, n_0_11, n_0_12⟩, ⟨n_1_2, n_1_3, n_1_4, n_1_5, n_1_6, n_1_7, n_1_8, n_1_9, n_1_10, n_1_11, n_1_12⟩, ⟨n_2_3, n_2_4, n_2_5, n_2_6, n_2_7, n_2_8, n_2_9, n_2_10, n_2_11, n_2_12⟩, ⟨n_3_4, n_3_5, n_3_6, n_3_7, n_3_8, n_3_9, n_3_10, n_3_11, n_3_12⟩, ⟨n_4_5, n_4_6, n_4_7, n_4_8, n_4_9, n_4_10, n_4_11, n_4_12⟩, ⟨n_5_6, n_5_7, n_5_8, n_5_9, n_5_10, n_5_11, n_5_12⟩, ⟨n_6_7, n_6_8, n_6_9, n_6_10, n_6_11, n_6_12⟩, ⟨n_7_8, n_7_9, n_7_10, n_7_11, n_7_12⟩, ⟨n_8_9, n_8_10, n_8_11, n_8_12⟩, ⟨n_9_10, n_9_11, n_9_12⟩, ⟨n_10_11, n_10_12⟩, n_11_12⟩ := hn
  refine wpAny_call ?_
  k_dflt ktr_enter
  rename_i g' L' h' F' N' B' X' T' kk'
  have hc9 : ∀ q9 ∈ ([(c, instObj 189 dc),
      (dc, cacheD w.params tc1 tc2 tc3 tc4 tc5 (.ref d) (.ref r) (.ref l) (.int M tM) (.int M ta)),
      (d, dictK w xs n),
      (r, instObj 53 dr),
      (dr, nodeD w.params tr1 tr2 tr3 tr4 tr5 tr6 rp rn rk rv rc),
      (l, instObj 53 dl),
      (dl, nodeD w.params tl1 tl2 tl3 tl4 tl5 tl6 (.ref r) .none lk lv (.ref f0)),
      (gk, listOf its ng)] : List (Addr × Obj)), q9.2.cls ≠ .type "tuple" := by simp only [List.forall_mem_cons]; simp
  have hx9 := lift_keyed hx kk' N hc9
  have hkx9 := lift_key hkx kk' N hc9
  have tl9 := tl.lift kk' (off_of_nodup (ads := [c, dc, d, r, dr, l, dl, gk]) hn0)
  have hfn9 := tl9.fn
  have hkl9 := lift_key hkl kk' N hc9
  clear hc9
  k_steps
  rename_i x dx h1_ l1_ l2_ g1_ L1_ h2_ B1_ X1_ T1_ tk1_ h3_ h4_ h5_ h6_ h7_ h8_ F1_ N1_ Tc1_ kX1_ h9_ h10_ tk2_ F8 N8
  have hl1_ := l1_; clear F1_ N1_
  have hxn_ : ∀ b ∈ [c, dc, d, r, dr, l, dl, gk], b ≠ x ∧ b ≠ dx := by simp only [List.forall_mem_cons]; (repeat' apply And.intro) <;> first | assumption | exact Ne.symm (by assumption) | (refine neN ?_; omega) | exact List.forall_mem_nil _
  have hxd_ : x ≠ dx := by first | assumption | exact Ne.symm (by assumption) | (refine neN ?_; omega)
  obtain ⟨oc2_, hc2_⟩ := code_get tl9.code
  obtain ⟨ogg_, hgg_, _⟩ := id tl9.gone
  obtain ⟨okk_, _, hkk_, _⟩ := id tl9.kc
  obtain ⟨oll_, hll_, _⟩ := id tl9.list
  have e1_ : x ≠ f0 := ne_of_ground N8 (by k_mem) tl9.fn
  have e2_ : dx ≠ f0 := ne_of_ground N8 (by k_mem) tl9.fn
  have e3_ : x ≠ c2 := ne_of_ground N8 (by k_mem) hc2_
  have e4_ : dx ≠ c2 := ne_of_ground N8 (by k_mem) hc2_
  have e5_ : x ≠ cg := ne_of_ground N8 (by k_mem) hgg_
  have e6_ : dx ≠ cg := ne_of_ground N8 (by k_mem) hgg_
  have e7_ : x ≠ ck := ne_of_ground N8 (by k_mem) hkk_
  have e8_ : dx ≠ ck := ne_of_ground N8 (by k_mem) hkk_
  have e9_ : x ≠ lg := ne_of_ground N8 (by k_mem) hll_
  have e0_ : dx ≠ lg := ne_of_ground N8 (by k_mem) hll_
  have hl9_ := (N8 (l, instObj 53 dl) (by simp)).1
  unfold held
  k_dflt (refine' ra_new B' F8 X' T' rfl ?k1 ?k2 ?k3 hl9_ hhr ?k4 (fun h8 tk8  F9 N9 K9  => ?k5))
  (case k4 => exact news_sub N8 (List.forall_mem_cons.mpr ⟨by k_mem, (List.forall_mem_cons.mpr ⟨by k_mem, (List.forall_mem_cons.mpr ⟨by k_mem, (List.forall_mem_cons.mpr ⟨by k_mem, (List.forall_mem_cons.mpr ⟨by k_mem, (List.forall_mem_cons.mpr ⟨by k_mem, (List.forall_mem_cons.mpr ⟨by k_mem, (List.forall_mem_nil _)⟩)⟩)⟩)⟩)⟩)⟩)⟩))
  (case k1 => (first | omega | (dsimp only [ktrTop, Around.deeper]; omega) | (show _ + 1 + _ < _; omega)))
  (case k2 => (first | omega | (dsimp only [ktrTop, Around.deeper]; omega) | (show _ + 1 + _ < _; omega)))
  (case k3 => exact (by simp only [List.nodup_cons, List.mem_cons, List.not_mem_nil, or_false, not_or, List.nodup_nil, not_false_eq_true, and_true]; (repeat' apply And.intro) <;> first | assumption | exact Ne.symm (by assumption) | (refine neN ?_; omega)))
  have N9 := news_app N9 N8 K9 (rest := [(l, instObj 53 dl), (dl, _), (gk, _)]) (List.forall_mem_cons.mpr ⟨by k_mem, (List.forall_mem_cons.mpr ⟨by k_mem, (List.forall_mem_cons.mpr ⟨by k_mem, (List.forall_mem_nil _)⟩)⟩)⟩) (List.forall_mem_cons.mpr ⟨(by (try dsimp only); simp only [List.mem_cons, List.not_mem_nil, or_false, not_or]; (repeat' apply And.intro) <;> first | assumption | exact Ne.symm (by assumption) | (refine neN ?_; omega)), (List.forall_mem_cons.mpr ⟨(by (try dsimp only); simp only [List.mem_cons, List.not_mem_nil, or_false, not_or]; (repeat' apply And.intro) <;> first | assumption | exact Ne.symm (by assumption) | (refine neN ?_; omega)), (List.forall_mem_cons.mpr ⟨(by (try dsimp only); simp only [List.mem_cons, List.not_mem_nil, or_false, not_or]; (repeat' apply And.intro) <;> first | assumption | exact Ne.symm (by assumption) | (refine neN ?_; omega)), (List.forall_mem_nil _)⟩)⟩)⟩)
  simp only [List.cons_append, List.nil_append] at N9
  clear F8 N8
  try dsimp only
  k_steps
  (rename Fr _ _ _ _ => F8); (rename News _ _ _ _ => N8)
  have hml_ := look_some_mem (look_snoc (kx, key, .ref x) hll)
  have hdl_ := dropK_len (keyed_snoc (v := .ref x) hx9 hkx9 hno).nodup hml_
  have hln_ : (xs ++ [(kx, key, Value.ref x)]).length = xs.length + 1 := by simp
  have hxs1_ : (xs ++ [(kx, key, Value.ref x)]).length ≤ sizeLine := by rw [hln_]; exact hxs1
  have hx1_ : ((xs ++ [(kx, key, Value.ref x)]).length : Int) < 2 ^ 63 := by rw [hln_]; omega
  have hd1_ : ((dropK (xs ++ [(kx, key, Value.ref x)]) kl).length : Int) < 2 ^ 63 := by omega
  have hx2_ : M < ((xs ++ [(kx, key, Value.ref x)]).length : Int) := by rw [hln_]; omega
  have hd2_ : ((dropK (xs ++ [(kx, key, Value.ref x)]) kl).length : Int) ≤ M := by omega
  unfold held
  k_dflt (refine' cu B' F8 X' T' rfl ?j1 ?j2 ?j3 (tl9.keeps F8.keep) hsz ((keyed_snoc (v := .ref x) hx9 hkx9 hno).keeps F8.keep) (hkl9.keeps F8.keep) (look_snoc _ hll) hxs1_ hhl hhv hd0 hx1_ hd1_ hx2_ hd2_ ?j4 (fun h8 tk8 t F9 N9 K9 Z9 => ?j5))
  (case j4 => exact news_sub N8 (List.forall_mem_cons.mpr ⟨by k_mem, (List.forall_mem_cons.mpr ⟨by k_mem, (List.forall_mem_cons.mpr ⟨by k_mem, (List.forall_mem_cons.mpr ⟨by k_mem, (List.forall_mem_cons.mpr ⟨by k_mem, (List.forall_mem_cons.mpr ⟨by k_mem, (List.forall_mem_cons.mpr ⟨by k_mem, (List.forall_mem_cons.mpr ⟨by k_mem, (List.forall_mem_nil _)⟩)⟩)⟩)⟩)⟩)⟩)⟩)⟩))
  (case j1 => (first | omega | (dsimp only [ktrTop, Around.deeper]; omega) | (show _ + 1 + _ < _; omega)))
  (case j2 => (first | omega | (dsimp only [ktrTop, Around.deeper]; omega) | (show _ + 1 + _ < _; omega)))
  (case j3 => exact (by simp only [List.nodup_cons, List.mem_cons, List.not_mem_nil, or_false, not_or, List.nodup_nil, not_false_eq_true, and_true]; (repeat' apply And.intro) <;> first | assumption | exact Ne.symm (by assumption) | (refine neN ?_; omega)))
  have N9 := news_app N9 N8 K9 (rest := [(x, instObj 53 dx), (dx, _)]) (List.forall_mem_cons.mpr ⟨by k_mem, (List.forall_mem_cons.mpr ⟨by k_mem, (List.forall_mem_nil _)⟩)⟩) (List.forall_mem_cons.mpr ⟨(by (try dsimp only); simp only [List.mem_cons, List.not_mem_nil, or_false, not_or]; (repeat' apply And.intro) <;> first | assumption | exact Ne.symm (by assumption) | (refine neN ?_; omega)), (List.forall_mem_cons.mpr ⟨(by (try dsimp only); simp only [List.mem_cons, List.not_mem_nil, or_false, not_or]; (repeat' apply And.intro) <;> first | assumption | exact Ne.symm (by assumption) | (refine neN ?_; omega)), (List.forall_mem_nil _)⟩)⟩)
  simp only [List.cons_append, List.nil_append] at N9
  clear F8 N8
  try dsimp only
  k_steps
  all_goals (
    try dsimp only
    try (k_unfold; try dsimp only)
    exact ⟨_, _, _, by assumption, by assumption, fun kF kN kk kf => ret _ _ x dx t _ _ _ _ _ _ kF kN kk kf hxn_ hxd_⟩)
end
end Mine
end
section
theorem Mine.off_Walk6_full : True := by w_top off; exact True.intro
set_option maxRecDepth 100000
set_option linter.unusedVariables false
namespace Mine
open PySem PySem.W PySem.Spec PySem.Calls PyProof.Rows
theorem fillF_Walk6_full : (PySem.Challenge.rw_bb0035_01 = PySem.Challenge.rw_bb0035_01) ∧ (hd.heap_39 = hd.heap_39) := by k_fill; exact ⟨rfl, rfl⟩

local macro_rules | `(tactic| k_ne) => `(tactic| first | (refine neN ?_; (try dsimp only); first | with_reducible assumption | exact Ne.symm (by with_reducible assumption) | exact ne_of_cls (by k_asm) (by k_mem) (by k_mem) (by dsimp only [tupOf, nodeD, cacheD, dictK, dictOf, instObj, W.listOf]; decide)))
local macro_rules | `(tactic| ktr_enter) => `(tactic| (refine' code_T ?k1 ?k2 ?k3 ?k4 ?k5 ?kA ?kF ?kK ?k6 ?k7 ?k8 ?k9 ?kB ?_ ?c2 ?c3 ?c4 ?c5; (case kA => exact rfl); (case kF => exact rfl); (case kK => assumption); (case k1 => k_asm); (case k2 => k_asm); (case k3 => k_asm); (case k4 => k_asm); (case k5 => k_asm); (case k6 => k_is); (case k7 => k_is); (case k8 => ktr_room); (case k9 => first | exact BindsTo.of_eq rfl | exact binds_K (by k_in) rfl (by k_is) rfl rfl rfl); (case c5 => decide); (case kB => exact locs rfl); (case c2 => exact rfl); (case c3 => exact rfl); (case c4 => exact rfl); k_whole; intro g' L' h' F' N' B' X' T' kk'; (try dsimp only); (try k_fold)))
local macro_rules | `(tactic| k_room) => `(tactic| ktr_room)
local macro_rules | `(tactic| k_units) => `(tactic| ktr_units)
local macro_rules | `(tactic| k_handed) => `(tactic| with_reducible assumption)
local macro_rules | `(tactic| walk_at "subscriptTail") => `(tactic| (k_here; (with_reducible show wpAny _ _ (subscriptTail _ _ (Value.ref _) _) _ _ _); k_dflt (refine' sub_key ?k1 ?k2 ?k3 ?k4 ?k5 ?k6 ?k7 ?k8 ?_; (case k1 => k_asm); (case k2 => k_asm); (case k3 => k_mem); (case k4 => k_asm); (case k5 => k_asm); (case k6 => k_asm); (case k7 => ktr_units); (case k8 => with_unfolding_all rfl); k_whole); intro tk9))
local macro_rules | `(tactic| walk_at "compareOp IsNot") => `(tactic| (k_here; (with_reducible show wpAny _ _ (compareOp CmpOp.IsNot _ Value.none) _ _ _); k_dflt (refine' isNot_key_none ?a ?_; (case a => with_reducible assumption); k_whole)))
local macro_rules | `(tactic| walk_at "compareOp Is") => `(tactic| (k_here; (with_reducible show wpAny _ _ (compareOp CmpOp.Is _ Value.none) _ _ _); k_dflt (refine' is_key_none ?a ?_; (case a => with_reducible assumption); k_whole)))
local macro_rules | `(tactic| walk_at "compareOp Is ref ref") => `(tactic| (k_here; (with_reducible show wpAny _ _ (compareOp CmpOp.Is (Value.ref _) (Value.ref _)) _ _ _); k_dflt (refine' is_ref_ne ?a ?b ?c ?d ?_; (case a => first | with_reducible assumption | exact Ne.symm (by with_reducible assumption)); (case b => first | exact News.get (by k_asm) (by k_mem) | exact Fr.keep (by k_asm) _ _ (by with_reducible assumption)); (case c => first | exact News.get (by k_asm) (by k_mem) | exact Fr.keep (by k_asm) _ _ (by with_reducible assumption)); (case d => intro q9; cases q9); k_whole)))
local macro_rules | `(tactic| walk_at "compareOp In") => `(tactic| (k_here; (with_reducible show wpAny _ _ (compareOp CmpOp.In _ (Value.ref _)) _ _ _); k_dflt (refine' in_keyN ?k1 ?k2 ?k3 ?k4 ?k5 ?k6 ?k7 _ ?k8 ?_; (case k1 => k_asm); (case k2 => k_asm); (case k3 => k_mem); (case k4 => k_asm); (case k5 => k_asm); (case k6 => k_asm); (case k7 => ktr_units); (case k8 => with_reducible assumption); k_whole); intro tk9))
local macro_rules | `(tactic| walk_at "call builtin:len") => `(tactic| (k_here; (with_reducible show wpAny _ _ (call (Value.builtin "len") [Value.ref _]) _ _ _); k_dflt (refine' len_keyN ?k1 ?k2 ?k3 ?k4 ?_; (case k1 => k_asm); (case k2 => k_mem); (case k3 => k_asm); (case k4 => first | with_reducible assumption | (simp only [List.length_append, List.length_cons, List.length_nil]; omega) | omega); k_whole); intro tk8 tk9))
local macro_rules | `(tactic| walk_at "getMethod ref") => `(tactic| (k_here; (with_reducible show wpAny _ _ (getMethod (Value.ref _) (Str.ofString "get") _) _ _ _); k_dflt (refine' methodN ?k1 ?k2 PySem.F.slot_dict_get PySem.F.type_dict_get ?_; (case k1 => k_asm); (case k2 => k_mem); k_whole)))
local macro_rules | `(tactic| walk_at "getMethod ref") => `(tactic| (k_here; (with_reducible show wpAny _ _ (getMethod (Value.ref _) (Str.ofString "pop") _) _ _ _); k_dflt (refine' methodN ?k1 ?k2 PySem.F.slot_dict_pop PySem.F.type_dict_pop ?_; (case k1 => k_asm); (case k2 => k_mem); k_whole)))
local macro_rules | `(tactic| walk_at "getMethod ref") => `(tactic| (k_here; (with_reducible show wpAny _ _ (getMethod (Value.ref _) (Str.ofString "cleanup") _) _ _ _); k_dflt (refine' kmu_own ?k1 ?k2 ?k3 ?k4 ?k5 ?_; (case k1 => k_asm); (case k2 => k_asm); (case k3 => k_inst); (case k4 => k_is); (case k5 => k_is); k_whole)))
local macro_rules | `(tactic| walk_at "call builtin:dict.get") => `(tactic| (k_here; (with_reducible show wpAny _ _ (call (Value.builtin _) [Value.ref _, _, _]) _ _ _); k_dflt (refine' get2_keyN ?k1 ?k2 ?k3 ?k4 ?k5 ?k6 ?k7 ?k8 ?_; (case k1 => k_asm); (case k2 => k_asm); (case k3 => k_mem); (case k4 => k_asm); (case k5 => k_asm); (case k6 => k_asm); (case k7 => ktr_units); (case k8 => k_asm); k_whole); intro tk9; (try dsimp only [Option.getD])))
local macro_rules | `(tactic| walk_at "call builtin:dict.pop") => `(tactic| (k_here; (with_reducible show wpAny _ _ (call (Value.builtin _) [Value.ref _, _]) _ _ _); k_dflt (refine' pop_keyN ?k1 ?k2 ?k3 ?k4 ?k5 ?k6 ?k7 ?k8 ?_; (case k1 => k_asm); (case k2 => k_asm); (case k3 => k_upd); (case k4 => k_asm); (case k5 => k_asm); (case k6 => ktr_units); (case k7 => k_asm); (case k8 => k_asm); k_whole); intro h9 tk9 F' N'; (try k_sweep)))
local macro_rules | `(tactic| walk_at "setItem ref") => `(tactic| (k_here; (with_reducible show wpAny _ _ (setItem (Value.ref _) _ _) _ _ _); k_dflt (refine' setItem_keyN ?k1 ?k2 ?k3 ?k4 ?k5 ?k6 ?k7 ?k8 ?_; (case k1 => k_asm); (case k2 => k_asm); (case k3 => k_upd); (case k4 => k_asm); (case k5 => k_asm); (case k6 => ktr_units); (case k7 => k_asm); (case k8 => k_asm); k_whole); intro h9 tk9 F' N'; (try k_sweep)))

local macro_rules | `(tactic| walk_at "callWith ref") => `(tactic| (k_here; (with_reducible show wpAny _ _ (callWith _ (Value.ref _) _ _ _) _ _ _); k_dflt (refine' callWith_fn ?a ?b ?_ ?c ?d; (case a => with_reducible assumption); (case b => rfl); (case c => rfl); (case d => rfl); k_whole)))
local macro_rules | `(tactic| walk_at "And") => `(tactic| ((with_reducible show (Heap.get? _ _ = some _) ∧ _); refine ⟨Fr.keep (by k_asm) _ _ (by with_reducible assumption), ?_⟩; (try dsimp only [List.nil_append, List.cons_append])))

local macro_rules | `(tactic| walk_at "ite") => `(tactic| first | refine PySem.W.ite_pos (by (try simp only [decide_eq_true_eq, List.length_append, List.length_cons, List.length_nil]); omega) ?_ | refine PySem.W.ite_neg (by (try simp only [decide_eq_true_eq, List.length_append, List.length_cons, List.length_nil]); omega) ?_)
local macro_rules | `(tactic| walk_at "call ref") => `(tactic| ((with_reducible show wpAny _ _ (call (Value.ref 149) _) _ _ _); refine Hold.intro ?_))
local macro_rules | `(tactic| walk_at "call ref") => `(tactic| ((with_reducible show wpAny _ _ (call (Value.ref 135) _) _ _ _); refine Hold.intro ?_))

section
variable {prog : Program} {w : World} {p : Program} {loose : List Str} {mean : ExcName → Option Value} {mg mb : Str → Option Value}

set_option maxHeartbeats 4000000 in
theorem add_full {dp un : Nat} {gd : Option (List Code)} {cn : Str} {cs : Scope} {a : Addr} {ccd : Value} {cl : List (Str × Addr)} {outer : List Env} {A₀ : Around} {base h₀ : Heap} {L : Addr} {m : Str → Option Value} {s : Shared} {Q E : Value → Shared → Prop}
    {tc1 tc2 tc3 tc4 tc5 : Tok} {c dc d : Addr} {M : Int} {tM : Tok} {ta : Tok} {xs : Ents} {n : Nat} {kx : Key} {key val : Value} {f : Addr} {kl : Key} {tr1 tr2 tr3 tr4 tr5 tr6 tl1 tl2 tl3 tl4 tl5 tl6 tz1 tz2 tz3 tz4 tz5 tz6 : Tok} {r dr : Addr} {rp rn rk rv rc : Value} {z dz : Addr} {zp zn zk zv zc : Value} {l dl : Addr} {lk lv : Value} {f0 gk c2 cg ck lg : Addr} {k : Int} {qual : Str} {pm ctv : Value} {gs : List Value} {its : Array Value} {ng : Nat}
    (B : Below A₀ base outer h₀) (F : Fr h₀ L s.heap m) (X : (hd.heap_39 w.params).In h₀) (T : Top p loose mean mg mb h₀) (hk : cs.kind = .function) (hd : dp + 60 < recursionLimit) (hu : un + 700 < cLine) (hn : [c, dc, d, r, dr, l, dl, z, dz, gk, f0, c2, cg, ck, lg].Nodup)
    (hx : Keyed prog w s.heap xs) (hkx : IsKey prog w s.heap kx key) (hno : kx ∉ keysOf xs) (hlx : (look xs kx).isSome = false) (hxs : xs.length ≤ sizeLine) (hd0 : (d == sysModules) = false) (hx63 : (xs.length : Int) + 1 < 2 ^ 63) (tl : TellerAt s.heap f0 k gk qual pm ctv c2 cg ck lg gs) (hsz : its.size ≤ sizeLine) (hkl : IsKey prog w s.heap kl lk) (hll : look xs kl = some (.ref l)) (hhr : handedIn rk = true) (hhl : handedIn lk = true) (hhv : handedIn lv = true) (hlen : (xs.length : Int) = M) (hxs1 : xs.length + 1 ≤ sizeLine)
    (N : News h₀ L s.heap [(c, instObj 189 dc),
      (dc, cacheD w.params tc1 tc2 tc3 tc4 tc5 (.ref d) (.ref r) (.ref l) (.int M tM) (.int M ta)),
      (d, dictK w xs n),
      (r, instObj 53 dr),
      (dr, nodeD w.params tr1 tr2 tr3 tr4 tr5 tr6 rp rn rk rv rc),
      (l, instObj 53 dl),
      (dl, nodeD w.params tl1 tl2 tl3 tl4 tl5 tl6 (.ref z) .none lk lv (.ref f0)),
      (z, instObj 53 dz),
      (dz, nodeD w.params tz1 tz2 tz3 tz4 tz5 tz6 zp zn zk zv zc),
      (gk, listOf its ng)])
    (ret : ∀ h' tk' (x dx t : Addr) (tx1 tx2 tx3 tx4 tx5 tx6 : Tok), Fr h₀ L h' m → News h₀ L h' [(t, tupOf [lk, lv]),
      (gk, listOf (its.push (.ref t)) (ng + 1)),
      (l, instObj 53 dl),
      (dl, nodeD w.params tl1 tl2 tl3 tl4 tl5 tl6 .none .none lk .none .none),
      (c, instObj 189 dc),
      (dc, cacheD w.params tc1 tc2 tc3 tc4 tc5 (.ref d) (.ref x) (.ref z) (.int M tM) (.int M ta)),
      (d, dictK w (dropK (xs ++ [(kx, key, .ref x)]) kl) (n + 1 + 1)),
      (z, instObj 53 dz),
      (dz, nodeD w.params tz1 tz2 tz3 tz4 tz5 tz6 zp .none zk zv zc),
      (x, instObj 53 dx),
      (dx, nodeD w.params tx1 tx2 tx3 tx4 tx5 tx6 .none rk key val (.ref f)),
      (r, instObj 53 dr),
      (dr, nodeD w.params tr1 tr2 tr3 tr4 tr5 tr6 (.ref x) rn rk rv rc)] → Keep s.heap h' [c, dc, d, r, dr, l, dl, z, dz, gk] → NewIn s.heap [(t, tupOf [lk, lv]),
      (gk, listOf (its.push (.ref t)) (ng + 1)),
      (l, instObj 53 dl),
      (dl, nodeD w.params tl1 tl2 tl3 tl4 tl5 tl6 .none .none lk .none .none),
      (c, instObj 189 dc),
      (dc, cacheD w.params tc1 tc2 tc3 tc4 tc5 (.ref d) (.ref x) (.ref z) (.int M tM) (.int M ta)),
      (d, dictK w (dropK (xs ++ [(kx, key, .ref x)]) kl) (n + 1 + 1)),
      (z, instObj 53 dz),
      (dz, nodeD w.params tz1 tz2 tz3 tz4 tz5 tz6 zp .none zk zv zc),
      (x, instObj 53 dx),
      (dx, nodeD w.params tx1 tx2 tx3 tx4 tx5 tx6 .none rk key val (.ref f)),
      (r, instObj 53 dr),
      (dr, nodeD w.params tr1 tr2 tr3 tr4 tr5 tr6 (.ref x) rn rk rv rc)] [c, dc, d, r, dr, l, dl, z, dz, gk] → (∀ b ∈ [c, dc, d, r, dr, l, dl, z, dz, gk], b ≠ x ∧ b ≠ dx) → x ≠ dx → Q .none { s with heap := h', toks := tk' }) :
    wpAny (model prog w) (ktrTop dp un gd cn cs L a ccd cl outer) (call (.ref 101) [.ref c, key, val, .ref f]) Q E s := by
  have hn0 := hn
  simp only [List.nodup_cons, List.mem_cons, List.not_mem_nil, or_false, not_or, List.nodup_nil, not_false_eq_true, and_true] at hn
  obtain ⟨⟨n_0_1, n_0_2, n_0_3, n_0_4, n_0_5, n_0_6, n_0_7, n_0_8, n_0_9, n_0_10, n_0_11, n_0_12, n_0_13, n_0_14⟩, ⟨n_1_2, n_1_3, n_1_4, n_1_5, n_1_6, n_1_7, n_1_8, n_1_9, n_1_10, n_1_11, n_1_12, n_1_13, n_1_14⟩, ⟨n_2_3, n_2_4, n_2_5, n_2_6, n_2_7, n_2_8, n_2_9, n_2_10, n_2_11, n_2_12, n_2_13, n_2_14⟩, ⟨n_3_4, n_3_5, n_3_6, n_3_7, n_3_8, n_3_9, n_3_10, n_3_11, n_3_12, n_3_13, n_3_14⟩, ⟨n_4_5, n_4_6, n_4_7, n_4_8, n_4_9, n_4_10, n_4_11, n_4_12, n_4_13, n_4_14⟩, ⟨n_5_6, n_5_7, n_5_8, n_5_9, n_5_10, n_5_11, n_5_12, n_5_13, n_5_14⟩, ⟨n_6_7, n_6_8, n_6_9, n_6_10, n_6_11, n_6_12, n_6_13, n_6_14⟩, ⟨n_7_8, n_7_9, n_7_10, n_7_11, n_7_12, n_7_13, n_7_14⟩, ⟨n_8_9, n_8_10, n_8_11, n_8_12, n_8_13, n_8_14⟩, ⟨n_9_10, n_9_11, n_9_12, n_9_13, n_9_14⟩, ⟨n_10_11, n_10_12, n_10_13, n_10_14⟩, ⟨n_11_12, n_11_13, n_11_14⟩, ⟨n_12_13, n_12_14⟩, n_13_14⟩ := hn
  refine wpAny_call ?_
  k_dflt ktr_enter
  rename_i g' L' h' F' N' B' X' T' kk'
  have hc9 : ∀ q9 ∈ ([(c, instObj 189 dc),
      (dc, cacheD w.params tc1 tc2 tc3 tc4 tc5 (.ref d) (.ref r) (.ref l) (.int M tM) (.int M ta)),
      (d, dictK w xs n),
      (r, instObj 53 dr),
      (dr, nodeD w.params tr1 tr2 tr3 tr4 tr5 tr6 rp rn rk rv rc),
      (l, instObj 53 dl),
      (dl, nodeD w.params tl1 tl2 tl3 tl4 tl5 tl6 (.ref z) .none lk lv (.ref f0)),
      (z, instObj 53 dz),
      (dz, nodeD w.params tz1 tz2 tz3 tz4 tz5 tz6 zp zn zk zv zc),
      (gk, listOf its ng)] : List (Addr × Obj)), q9.2.cls ≠ .type "tuple" := by simp only [List.forall_mem_cons]; simp
  have hx9 := lift_keyed hx kk' N hc9
  have hkx9 := lift_key hkx kk' N hc9
  have tl9 := tl.lift kk' (off_of_nodup (ads := [c, dc, d, r, dr, l, dl, z, dz, gk]) hn0)
  have hfn9 := tl9.fn
  have hkl9 := lift_key hkl kk' N hc9
  clear hc9
  k_steps
  rename_i x dx h1_ l1_ l2_ g1_ L1_ h2_ B1_ X1_ T1_ tk1_ h3_ h4_ h5_ h6_ h7_ h8_ F1_ N1_ Tc1_ kX1_ h9_ h10_ tk2_ F8 N8
  have hl1_ := l1_; clear F1_ N1_
  have hxn_ : ∀ b ∈ [c, dc, d, r, dr, l, dl, z, dz, gk], b ≠ x ∧ b ≠ dx := by simp only [List.forall_mem_cons]; (repeat' apply And.intro) <;> first | assumption | exact Ne.symm (by assumption) | (refine neN ?_; omega) | exact List.forall_mem_nil _
  have hxd_ : x ≠ dx := by first | assumption | exact Ne.symm (by assumption) | (refine neN ?_; omega)
  obtain ⟨oc2_, hc2_⟩ := code_get tl9.code
  obtain ⟨ogg_, hgg_, _⟩ := id tl9.gone
  obtain ⟨okk_, _, hkk_, _⟩ := id tl9.kc
  obtain ⟨oll_, hll_, _⟩ := id tl9.list
  have e1_ : x ≠ f0 := ne_of_ground N8 (by k_mem) tl9.fn
  have e2_ : dx ≠ f0 := ne_of_ground N8 (by k_mem) tl9.fn
  have e3_ : x ≠ c2 := ne_of_ground N8 (by k_mem) hc2_
  have e4_ : dx ≠ c2 := ne_of_ground N8 (by k_mem) hc2_
  have e5_ : x ≠ cg := ne_of_ground N8 (by k_mem) hgg_
  have e6_ : dx ≠ cg := ne_of_ground N8 (by k_mem) hgg_
  have e7_ : x ≠ ck := ne_of_ground N8 (by k_mem) hkk_
  have e8_ : dx ≠ ck := ne_of_ground N8 (by k_mem) hkk_
  have e9_ : x ≠ lg := ne_of_ground N8 (by k_mem) hll_
  have e0_ : dx ≠ lg := ne_of_ground N8 (by k_mem) hll_
  have hl9_ := (N8 (l, instObj 53 dl) (by simp)).1
  unfold held
  k_dflt (refine' ra_new B' F8 X' T' rfl ?k1 ?k2 ?k3 hl9_ hhr ?k4 (fun h8 tk8  F9 N9 K9  => ?k5))
  (case k4 => exact news_sub N8 (List.forall_mem_cons.mpr ⟨by k_mem, (List.forall_mem_cons.mpr ⟨by k_mem, (List.forall_mem_cons.mpr ⟨by k_mem, (List.forall_mem_cons.mpr ⟨by k_mem, (List.forall_mem_cons.mpr ⟨by k_mem, (List.forall_mem_cons.mpr ⟨by k_mem, (List.forall_mem_cons.mpr ⟨by k_mem, (List.forall_mem_nil _)⟩)⟩)⟩)⟩)⟩)⟩)⟩))
  (case k1 => (first | omega | (dsimp only [ktrTop, Around.deeper]; omega) | (show _ + 1 + _ < _; omega)))
  (case k2 => (first | omega | (dsimp only [ktrTop, Around.deeper]; omega) | (show _ + 1 + _ < _; omega)))
  (case k3 => exact (by simp only [List.nodup_cons, List.mem_cons, List.not_mem_nil, or_false, not_or, List.nodup_nil, not_false_eq_true, and_true]; (repeat' apply And.intro) <;> first | assumption | exact Ne.symm (by assumption) | (refine neN ?_; omega)))
  have N9 := news_app N9 N8 K9 (rest := [(l, instObj 53 dl), (dl, _), (z, instObj 53 dz), (dz, _), (gk, _)]) (List.forall_mem_cons.mpr ⟨by k_mem, (List.forall_mem_cons.mpr ⟨by k_mem, (List.forall_mem_cons.mpr ⟨by k_mem, (List.forall_mem_cons.mpr ⟨by k_mem, (List.forall_mem_cons.mpr ⟨by k_mem, (List.forall_mem_nil _)⟩)⟩)⟩)⟩)⟩) (List.forall_mem_cons.mpr ⟨(by (try dsimp only); simp only [List.mem_cons, List.not_mem_nil, or_false, not_or]; (repeat' apply And.intro) <;> first | assumption | exact Ne.symm (by assumption) | (refine neN ?_; omega)), (List.forall_mem_cons.mpr ⟨(by (try dsimp only); simp only [List.mem_cons, List.not_mem_nil, or_false, not_or]; (repeat' apply And.intro) <;> first | assumption | exact Ne.symm (by assumption) | (refine neN ?_; omega)), (List.forall_mem_cons.mpr ⟨(by (try dsimp only); simp only [List.mem_cons, List.not_mem_nil, or_false, not_or]; (repeat' apply And.intro) <;> first | assumption | exact Ne.symm (by assumption) | (refine neN ?_; omega)), (List.forall_mem_cons.mpr ⟨(by (try dsimp only); simp only [List.mem_cons, List.not_mem_nil, or_false, not_or]; (repeat' apply And.intro) <;> first | assumption | exact Ne.symm (by assumption) | (refine neN ?_; omega)), (List.forall_mem_cons.mpr ⟨(by (try dsimp only); simp only [List.mem_cons, List.not_mem_nil, or_false, not_or]; (repeat' apply And.intro) <;> first | assumption | exact Ne.symm (by assumption) | (refine neN ?_; omega)), (List.forall_mem_nil _)⟩)⟩)⟩)⟩)⟩)
  simp only [List.cons_append, List.nil_append] at N9
  clear F8 N8
  try dsimp only
  k_steps
  (rename Fr _ _ _ _ => F8); (rename News _ _ _ _ => N8)
  have hml_ := look_some_mem (look_snoc (kx, key, .ref x) hll)
  have hdl_ := dropK_len (keyed_snoc (v := .ref x) hx9 hkx9 hno).nodup hml_
  have hln_ : (xs ++ [(kx, key, Value.ref x)]).length = xs.length + 1 := by simp
  have hxs1_ : (xs ++ [(kx, key, Value.ref x)]).length ≤ sizeLine := by rw [hln_]; exact hxs1
  have hx1_ : ((xs ++ [(kx, key, Value.ref x)]).length : Int) < 2 ^ 63 := by rw [hln_]; omega
  have hd1_ : ((dropK (xs ++ [(kx, key, Value.ref x)]) kl).length : Int) < 2 ^ 63 := by omega
  have hx2_ : M < ((xs ++ [(kx, key, Value.ref x)]).length : Int) := by rw [hln_]; omega
  have hd2_ : ((dropK (xs ++ [(kx, key, Value.ref x)]) kl).length : Int) ≤ M := by omega
  unfold held
  k_dflt (refine' cu B' F8 X' T' rfl ?j1 ?j2 ?j3 (tl9.keeps F8.keep) hsz ((keyed_snoc (v := .ref x) hx9 hkx9 hno).keeps F8.keep) (hkl9.keeps F8.keep) (look_snoc _ hll) hxs1_ hhl hhv hd0 hx1_ hd1_ hx2_ hd2_ ?j4 (fun h8 tk8 t F9 N9 K9 Z9 => ?j5))
  (case j4 => exact news_sub N8 (List.forall_mem_cons.mpr ⟨by k_mem, (List.forall_mem_cons.mpr ⟨by k_mem, (List.forall_mem_cons.mpr ⟨by k_mem, (List.forall_mem_cons.mpr ⟨by k_mem, (List.forall_mem_cons.mpr ⟨by k_mem, (List.forall_mem_cons.mpr ⟨by k_mem, (List.forall_mem_cons.mpr ⟨by k_mem, (List.forall_mem_cons.mpr ⟨by k_mem, (List.forall_mem_nil _)⟩)⟩)⟩)⟩)⟩)⟩)⟩)⟩))
  (case j1 => (first | omega | (dsimp only [ktrTop, Around.deeper]; omega) | (show _ + 1 + _ < _; omega)))
  (case j2 => (first | omega | (dsimp only [ktrTop, Around.deeper]; omega) | (show _ + 1 + _ < _; omega)))
  (case j3 => exact (by simp only [List.nodup_cons, List.mem_cons, List.not_mem_nil, or_false, not_or, List.nodup_nil, not_false_eq_true, and_true]; (repeat' apply And.intro) <;> first | assumption | exact Ne.symm (by assumption) | (refine neN ?_; omega)))
  have N9 := news_app N9 N8 K9 (rest := [(x, instObj 53 dx), (dx, _), (r, instObj 53 dr), (dr, _)]) (List.forall_mem_cons.mpr ⟨by k_mem, (List.forall_mem_cons.mpr ⟨by k_mem, (List.forall_mem_cons.mpr ⟨by k_mem, (List.forall_mem_cons.mpr ⟨by k_mem, (List.forall_mem_nil _)⟩)⟩)⟩)⟩) (List.forall_mem_cons.mpr ⟨(by (try dsimp only); simp only [List.mem_cons, List.not_mem_nil, or_false, not_or]; (repeat' apply And.intro) <;> first | assumption | exact Ne.symm (by assumption) | (refine neN ?_; omega)), (List.forall_mem_cons.mpr ⟨(by (try dsimp only); simp only [List.mem_cons, List.not_mem_nil, or_false, not_or]; (repeat' apply And.intro) <;> first | assumption | exact Ne.symm (by assumption) | (refine neN ?_; omega)), (List.forall_mem_cons.mpr ⟨(by (try dsimp only); simp only [List.mem_cons, List.not_mem_nil, or_false, not_or]; (repeat' apply And.intro) <;> first | assumption | exact Ne.symm (by assumption) | (refine neN ?_; omega)), (List.forall_mem_cons.mpr ⟨(by (try dsimp only); simp only [List.mem_cons, List.not_mem_nil, or_false, not_or]; (repeat' apply And.intro) <;> first | assumption | exact Ne.symm (by assumption) | (refine neN ?_; omega)), (List.forall_mem_nil _)⟩)⟩)⟩)⟩)
  simp only [List.cons_append, List.nil_append] at N9
  clear F8 N8
  try dsimp only
  k_steps
  all_goals (
    try dsimp only
    try (k_unfold; try dsimp only)
    exact ⟨_, _, _, by assumption, by assumption, fun kF kN kk kf => ret _ _ x dx t _ _ _ _ _ _ kF kN kk kf hxn_ hxd_⟩)
end
end Mine
end
section
set_option maxRecDepth 100000
set_option linter.unusedVariables false
set_option linter.unusedSimpArgs false
namespace Mine
open PySem PySem.W PySem.Spec PySem.Calls PyProof.Rows
section
variable {prog : Program} {w : World} {h h' h₀ : Heap} {ow ow' : Addr → Nat} {k : Nat} {L : Addr} {M : Int} {gk c dc d : Addr} {recs recs' : List Rec}
theorem Seg.live {P : Params} {p n : Value} {A : List Rec} (x : Seg P h p A n) : ∀ a ∈ adr A, ∃ o, h.get? a = some o := by
  induction A generalizing p with
  | nil => nofun
  | cons r A ih =>
    intro a ha
    obtain ⟨⟨h1, _, _, _, _, _, _, h2⟩, h3⟩ := x
    rcases List.mem_cons.mp ha with rfl | ha
    · exact ⟨_, h1⟩
    rcases List.mem_cons.mp ha with rfl | ha
    · exact ⟨_, h2⟩
    exact ih h3 a ha
theorem CacheAt.live (C : CacheAt prog w h ow k h₀ L M gk c dc d recs) : ∀ a ∈ c :: dc :: d :: adr recs, ∃ o, h.get? a = some o := by
  obtain ⟨_, _, _, _, _, _, _, hdc⟩ := C.dict
  obtain ⟨_, _, hdd, _⟩ := C.ents
  intro a ha
  rcases List.mem_cons.mp ha with rfl | ha
  · exact ⟨_, C.inst⟩
  rcases List.mem_cons.mp ha with rfl | ha
  · exact ⟨_, hdc⟩
  rcases List.mem_cons.mp ha with rfl | ha
  · exact ⟨_, hdd⟩
  exact C.seg.live a ha
theorem IsKey.live {q : Key} {v : Value} (x : IsKey prog w h q v) : ∀ a, v = .ref a → ∃ o, h.get? a = some o := by
  intro a e
  cases x with
  | int _ _ => cases e
  | str _ _ => cases e
  | bytes _ _ => cases e
  | tup y => cases e; obtain ⟨o, _, _, g, _⟩ := y; exact ⟨o, g⟩
theorem TellerAt.live {f gk : Addr} {k : Int} {qual : Str} {pm ctv : Value} {c' cg ck lg : Addr} {gs : List Value} (x : TellerAt h f k gk qual pm ctv c' cg ck lg gs) : ∀ a ∈ [f, c', cg, ck, lg], ∃ o, h.get? a = some o := by
  obtain ⟨oc, hc⟩ := code_get x.code
  obtain ⟨og, hg, _⟩ := x.gone
  obtain ⟨ok, _, hk, _⟩ := x.kc
  obtain ⟨ol, hl, _⟩ := x.list
  simp only [List.forall_mem_cons]
  exact ⟨⟨_, x.fn⟩, ⟨_, hc⟩, ⟨_, hg⟩, ⟨_, hk⟩, ⟨_, hl⟩, nofun⟩
theorem ne_of_data {a b : Addr} {o o' : Obj} (x : h.get? a = some o) (y : h.get? b = some o') (n : o.data ≠ o'.data) : a ≠ b := fun e => n (by rw [e, y] at x; rw [Option.some.inj x])
theorem TellerAt.nodup {f gk : Addr} {k : Int} {qual : Str} {pm ctv : Value} {c' cg ck lg : Addr} {gs : List Value} (x : TellerAt h f k gk qual pm ctv c' cg ck lg gs) : [f, c', cg, ck, lg].Nodup := by
  obtain ⟨c₂, oc, vs, t, e2, hoc, hd, hv⟩ := x.code
  cases e2
  obtain ⟨og, hg, dg⟩ := x.gone
  obtain ⟨ok, tk, hk, dk⟩ := x.kc
  obtain ⟨ol, hl, _, n, dl⟩ := x.list
  have f1 := ne_of_data x.fn hoc (by rw [hd]; intro q; cases q)
  have f2 := ne_of_data x.fn hg (by rw [dg]; intro q; cases q)
  have f3 := ne_of_data x.fn hk (by rw [dk]; intro q; cases q)
  have f4 := ne_of_data x.fn hl (by rw [dl]; intro q; cases q)
  have f5 := ne_of_data hoc hg (by rw [hd, dg]; intro q; cases q)
  have f6 := ne_of_data hoc hk (by rw [hd, dk]; intro q; cases q)
  have f7 := ne_of_data hoc hl (by rw [hd, dl]; intro q; cases q)
  have f8 := ne_of_data hg hk (by rw [dg, dk]; intro q; cases q)
  have f9 := ne_of_data hg hl (by rw [dg, dl]; intro q; cases q)
  have f0 := ne_of_data hk hl (by rw [dk, dl]; intro q; cases q)
  simp only [List.nodup_cons, List.mem_cons, List.not_mem_nil, or_false, not_or, List.nodup_nil, not_false_eq_true, and_true]
  exact ⟨⟨f1, f2, f3, f4⟩, ⟨f5, f6, f7⟩, ⟨f8, f9⟩, f0⟩
theorem IsKeyW.ext {q : Key} {v : Value} (x : IsKeyW prog w h ow q v) (he : ∀ a o, h.get? a = some o → ow' a = ow a) : IsKeyW prog w h ow' q v :=
  ⟨x.1, fun a e => by obtain ⟨o, g⟩ := x.1.live a e; rw [he a o g]; exact x.2 a e⟩
theorem CacheAt.ext (C : CacheAt prog w h ow k h₀ L M gk c dc d recs) (he : ∀ a o, h.get? a = some o → ow' a = ow a) : CacheAt prog w h ow' k h₀ L M gk c dc d recs :=
  { C with
    ents := by
      obtain ⟨xs, n, e1, e2, e3, e4, e5⟩ := C.ents
      exact ⟨xs, n, e1, e2, fun e hm => (IsKeyW.ext ⟨e2.is e hm, e3 e hm⟩ he).2, e4, e5⟩
    keys := fun r hr => (C.keys r hr).ext he
    tell := fun r hr => by
      obtain ⟨qual, pm, ctv, c', cg, ck, lg, gs, t, o⟩ := C.tell r hr
      exact ⟨qual, pm, ctv, c', cg, ck, lg, gs, t, fun a ha => by obtain ⟨o', g⟩ := t.live a ha; rw [he a o' g]; exact o a ha⟩
    own := fun a ha => by obtain ⟨o', g⟩ := C.live a ha; rw [he a o' g]; exact C.own a ha }
/-- a cache that nothing touched -/
theorem CacheAt.keep (C : CacheAt prog w h ow k h₀ L M gk c dc d recs) (kk : ∀ a o, h.get? a = some o → (ow a = k ∨ ow a = 98) → h'.get? a = some o) : CacheAt prog w h' ow k h₀ L M gk c dc d recs := by
  obtain ⟨xs, n, e1, e2, e3, e4, e5⟩ := C.ents
  obtain ⟨t1, t2, t3, t4, t5, tm, ta, hdc⟩ := C.dict
  have ko : ∀ a o, a ∈ c :: dc :: d :: adr recs → h.get? a = some o → h'.get? a = some o := fun a o ha g => kk a o g (.inl (C.own a ha).1)
  have k98 : ∀ {q : Key} {v : Value}, IsKeyW prog w h ow q v → IsKeyW prog w h' ow q v := fun x => ⟨x.1.mono fun a o e g _ => kk a o g (.inr (x.2 a e)), x.2⟩
  exact {
    inst := ko _ _ (by simp) C.inst
    dict := ⟨t1, t2, t3, t4, t5, tm, ta, ko _ _ (by simp) hdc⟩
    ents := ⟨xs, n, ko _ _ (by simp) e1, ⟨fun x hx => (k98 ⟨e2.is x hx, e3 x hx⟩).1, e2.nodup⟩, e3, e4, e5⟩
    seg := C.seg.keep fun a ha o g => ko a o (by simp [ha]) g
    keys := fun r hr => k98 (C.keys r hr)
    tell := fun r hr => by
      obtain ⟨qual, pm, ctv, c', cg, ck, lg, gs, t, o⟩ := C.tell r hr
      exact ⟨qual, pm, ctv, c', cg, ck, lg, gs, t.keep fun a ha o' g => kk a o' g (.inr (o a ha)), o⟩
    own := C.own
    nodup := C.nodup
    sysd := C.sysd
    nodupK := C.nodupK
    small := C.small }
theorem CacheAt.added {x : Rec} {kept rest : List Rec} {T : List Addr} {xs' : Ents} {n' : Nat} (C : CacheAt prog w h ow k h₀ L M gk c dc d recs) (hk98 : k ≠ 98) (kk : Keep h h' T) (hT : ∀ a ∈ T, a = gk ∨ a ∈ c :: dc :: d :: adr recs) (hgk : ow gk ≠ 98)
    (hp : recs = kept ++ rest) (he : ∀ a o, h.get? a = some o → ow' a = ow a)
    (hx : h'.get? x.x = some (instObj 53 x.dx) ∧ x.x ≠ L ∧ h₀.get? x.x = none) (hdx : x.dx ≠ L ∧ h₀.get? x.dx = none) (ox : ow' x.x = k) (odx : ow' x.dx = k) (nx : h.get? x.x = none) (ndx : h.get? x.dx = none) (hne : x.x ≠ x.dx)
    (hkey : IsKeyW prog w h ow x.key x.kv) (hno : x.key ∉ recs.map (·.key))
    (htl : ∃ qual pm ctv c' cg ck lg gs, TellerAt h x.f k gk qual pm ctv c' cg ck lg gs ∧ ∀ a ∈ [x.f, c', cg, ck, lg], ow a = 98)
    (i : h'.get? c = some (instObj 189 dc)) (D : ∃ t1 t2 t3 t4 t5 tm ta, h'.get? dc = some (cacheD w.params t1 t2 t3 t4 t5 (.ref d) (firstRef (x :: kept)) (lastRef .none (x :: kept)) (.int M tm) (.int M ta)))
    (e1 : h'.get? d = some (dictK w xs' n')) (e2 : Keyed prog w h xs') (e3 : ∀ e ∈ xs', ∀ a, e.2.1 = .ref a → ow a = 98) (e4 : xs'.length = kept.length + 1) (e5 : ∀ r ∈ x :: kept, look xs' r.key = some (.ref r.x))
    (sg : Seg w.params h' .none (x :: kept) .none) (hs : kept.length + 1 ≤ 100) : CacheAt prog w h' ow' k h₀ L M gk c dc d (x :: kept) := by
  subst hp
  have k98 : ∀ a o, h.get? a = some o → ow a = 98 → h'.get? a = some o := fun a o g e => kk a o g fun hm => by
    rcases hT a hm with rfl | hm
    · exact hgk e
    · exact hk98 ((C.own a hm).1.symm.trans e)
  have kkey : ∀ {q : Key} {v : Value}, IsKeyW prog w h ow q v → IsKeyW prog w h' ow' q v := fun x => ⟨x.1.mono fun a o e g _ => k98 a o g (x.2 a e), (x.ext he).2⟩
  have hsub : ∀ a ∈ c :: dc :: d :: adr kept, a ∈ c :: dc :: d :: adr (kept ++ rest) := fun a ha => by
    rw [adr_append]
    exact List.mem_append_left (as := c :: dc :: d :: adr kept) _ ha
  have tellK : ∀ {r : Rec}, (∃ qual pm ctv c' cg ck lg gs, TellerAt h r.f k gk qual pm ctv c' cg ck lg gs ∧ ∀ a ∈ [r.f, c', cg, ck, lg], ow a = 98) → ∃ qual pm ctv c' cg ck lg gs, TellerAt h' r.f k gk qual pm ctv c' cg ck lg gs ∧ ∀ a ∈ [r.f, c', cg, ck, lg], ow' a = 98 := fun ⟨qual, pm, ctv, c', cg, ck, lg, gs, t, o⟩ =>
    ⟨qual, pm, ctv, c', cg, ck, lg, gs, t.keep fun a ha o' g => k98 a o' g (o a ha), fun a ha => by obtain ⟨o', g⟩ := t.live a ha; rw [he a o' g]; exact o a ha⟩
  have nin : ∀ a, h.get? a = none → a ∉ c :: dc :: d :: adr (kept ++ rest) := fun a ha hm => by
    obtain ⟨o, g⟩ := C.live a hm
    rw [ha] at g; cases g
  have hadr : (c :: dc :: d :: adr (x :: kept)).Perm (x.x :: x.dx :: c :: dc :: d :: adr kept) :=
    List.perm_append_comm_assoc [c, dc, d] [x.x, x.dx] (adr kept)
  have hnk : (c :: dc :: d :: adr kept).Nodup := by
    have := C.nodup
    rw [adr_append] at this
    exact (List.nodup_append (l₁ := c :: dc :: d :: adr kept)).mp this |>.1
  exact {
    inst := i
    dict := D
    ents := ⟨xs', n', e1, ⟨fun y hy => (kkey ⟨e2.is y hy, e3 y hy⟩).1, e2.nodup⟩, fun y hy => (kkey ⟨e2.is y hy, e3 y hy⟩).2, e4, e5⟩
    seg := sg
    keys := fun r hr => by
      rcases List.mem_cons.mp hr with rfl | hr
      · exact kkey hkey
      · exact kkey (C.keys r (List.mem_append_left _ hr))
    tell := fun r hr => by
      rcases List.mem_cons.mp hr with rfl | hr
      · exact tellK htl
      · exact tellK (C.tell r (List.mem_append_left _ hr))
    own := fun a ha => by
      have := hadr.subset ha
      rcases List.mem_cons.mp this with rfl | this
      · exact ⟨ox, hx.2⟩
      rcases List.mem_cons.mp this with rfl | this
      · exact ⟨odx, hdx⟩
      obtain ⟨o, g⟩ := C.live a (hsub a this)
      rw [he a o g]
      exact C.own a (hsub a this)
    nodup := hadr.nodup_iff.mpr (List.nodup_cons.mpr ⟨fun hm => by
      rcases List.mem_cons.mp hm with e | hm
      · exact hne e
      · exact nin _ nx (hsub _ hm), List.nodup_cons.mpr ⟨fun hm => nin _ ndx (hsub _ hm), hnk⟩⟩)
    sysd := C.sysd
    nodupK := by
      have hk := C.nodupK
      rw [List.map_append] at hk hno
      exact List.nodup_cons.mpr ⟨fun hm => hno (List.mem_append_left _ hm), (List.nodup_append.mp hk).1⟩
    small := hs }
theorem look_snoc_new {xs : Ents} {q : Key} {kv v : Value} (h : look xs q = none) : look (xs ++ [(q, kv, v)]) q = some v := by
  unfold look at *
  rw [List.find?_append]
  cases hf : xs.find? fun x => decide (x.1 = q) with
  | none => simp
  | some y => rw [hf] at h; simp at h
theorem look_drop {xs : Ents} {q r : Key} (h : r ≠ q) : look (dropK xs q) r = look xs r := by
  unfold look dropK
  rw [List.find?_filter]
  congr 1
  congr 1
  funext y
  by_cases e : y.1 = r
  · simp [e, h]
  · simp [e]
theorem ents_more {h : Heap} {xs : Ents} {recs : List Rec} {q : Key} {key : Value} {xa dxa f : Addr} {i : Int} {vt : Tok} (e2 : Keyed prog w h xs) (e3 : ∀ e ∈ xs, ∀ a, e.2.1 = .ref a → ow a = 98) (e4 : xs.length = recs.length) (e5 : ∀ r ∈ recs, look xs r.key = some (.ref r.x)) (hk : IsKeyW prog w h ow q key) (hn : look xs q = none) :
    Keyed prog w h (xs ++ [(q, key, .ref xa)]) ∧ (∀ e ∈ xs ++ [(q, key, .ref xa)], ∀ a, e.2.1 = .ref a → ow a = 98) ∧ (xs ++ [(q, key, Value.ref xa)]).length = recs.length + 1 ∧ ∀ r ∈ (⟨xa, dxa, q, key, i, vt, f⟩ : Rec) :: recs, look (xs ++ [(q, key, .ref xa)]) r.key = some (.ref r.x) := by
  refine ⟨keyed_snoc e2 hk.1 (look_none_iff.mp hn), fun e he => ?_, by simp [e4], fun r hr => ?_⟩
  · rcases List.mem_append.mp he with he | he
    · exact e3 e he
    · rw [List.mem_singleton.mp he]; exact hk.2
  · rcases List.mem_cons.mp hr with rfl | hr
    · exact look_snoc_new hn
    · exact look_snoc _ (e5 r hr)
theorem ents_full {h : Heap} {xs : Ents} {kept : List Rec} {l : Rec} {q : Key} {key : Value} {xa dxa f : Addr} {i : Int} {vt : Tok} (e2 : Keyed prog w h xs) (e3 : ∀ e ∈ xs, ∀ a, e.2.1 = .ref a → ow a = 98) (e4 : xs.length = (kept ++ [l]).length) (e5 : ∀ r ∈ kept ++ [l], look xs r.key = some (.ref r.x)) (hk : IsKeyW prog w h ow q key) (hn : look xs q = none)
    (hnd : ((kept ++ [l]).map (·.key)).Nodup) (hno : q ∉ (kept ++ [l]).map (·.key)) :
    Keyed prog w h (dropK (xs ++ [(q, key, .ref xa)]) l.key) ∧ (∀ e ∈ dropK (xs ++ [(q, key, .ref xa)]) l.key, ∀ a, e.2.1 = .ref a → ow a = 98) ∧ (dropK (xs ++ [(q, key, Value.ref xa)]) l.key).length = kept.length + 1 ∧ ∀ r ∈ (⟨xa, dxa, q, key, i, vt, f⟩ : Rec) :: kept, look (dropK (xs ++ [(q, key, .ref xa)]) l.key) r.key = some (.ref r.x) := by
  obtain ⟨m2, m3, m4, m5⟩ := ents_more (xa := xa) (dxa := dxa) (f := f) (i := i) (vt := vt) e2 e3 e4 e5 hk hn
  refine ⟨keyed_drop m2 _, fun e he => m3 e (List.mem_filter.mp he).1, ?_, fun r hr => ?_⟩
  · have := dropK_len m2.nodup (look_some_mem (m5 l (by simp)))
    rw [m4] at this
    simp only [List.length_append, List.length_cons, List.length_nil] at this
    omega
  · rw [look_drop]
    · exact m5 r (by rcases List.mem_cons.mp hr with rfl | hr; exact .head _; exact .tail _ (List.mem_append_left _ hr))
    · intro e
      rcases List.mem_cons.mp hr with rfl | hr
      · exact hno (by rw [show q = l.key from e]; exact List.mem_map.mpr ⟨l, by simp, rfl⟩)
      · rw [List.map_append, List.nodup_append] at hnd
        exact hnd.2.2 r.key (List.mem_map.mpr ⟨r, hr, rfl⟩) l.key (by simp) e
end
section
variable {prog : Program} {w : World} {p : Program} {loose : List Str} {mean : ExcName → Option Value} {mg mb : Str → Option Value}

set_option maxHeartbeats 2000000 in
theorem adds_first {dp un : Nat} {gd : Option (List Code)} {cn : Str} {cs : Scope} {a : Addr} {ccd : Value} {cl : List (Str × Addr)} {outer : List Env} {A₀ : Around} {base h₀ : Heap} {L : Addr} {m : Str → Option Value} {s : Shared} {Q E : Value → Shared → Prop}
    {ow : Addr → Nat} {k : Nat} {M : Int} {gk c dc d : Addr} {q : Key} {key : Value} {i : Int} {vt : Tok} {f : Addr} 
    (B : Below A₀ base outer h₀) (F : Fr h₀ L s.heap m) (X : (hd.heap_39 w.params).In h₀) (T : Top p loose mean mg mb h₀) (hk : cs.kind = .function) (hd : dp + 60 < recursionLimit) (hu : un + 700 < cLine) (hk98 : k ≠ 98) (hgk : ow gk ≠ 98)
    (C : CacheAt prog w s.heap ow k h₀ L M gk c dc d []) (hkx : IsKeyW prog w s.heap ow q key) (hno : q ∉ ([] : List Rec).map (·.key))
    (htl : ∃ qual pm ctv c' cg ck lg gs, TellerAt s.heap f k gk qual pm ctv c' cg ck lg gs ∧ ∀ a ∈ [f, c', cg, ck, lg], ow a = 98)
    (hle : (([] : List Rec).length : Int) + 1 ≤ M) (hsm : ([] : List Rec).length + 1 ≤ 100)
    (ret : ∀ h' tk' ow' xa dxa, Fr h₀ L h' m → (∀ a o, s.heap.get? a = some o → ow' a = ow a) → CacheAt prog w h' ow' k h₀ L M gk c dc d (⟨xa, dxa, q, key, i, vt, f⟩ :: []) → Keep s.heap h' (c :: dc :: d :: adr []) → Q .none { s with heap := h', toks := tk' }) :
    wpAny (model prog w) (ktrTop dp un gd cn cs L a ccd cl outer) (call (.ref 101) [.ref c, key, .int i vt, .ref f]) Q E s := by
  have hnd := C.nodup
  have hsg := C.seg
  obtain ⟨tc1, tc2, tc3, tc4, tc5, tm, ta, hdc⟩ := C.dict
  obtain ⟨xs, n, hdd, hxs, hxo, hxl, hxk⟩ := C.ents
  have hnx : look xs q = none := look_none_iff.mpr fun hq => hno ((C.keysOf_iff hxl hxk q).mp hq)
  have hnk : q ∉ keysOf xs := look_none_iff.mp hnx
  have hsm2 := C.small
  have hxs1 : xs.length ≤ sizeLine := by unfold sizeLine; omega
  have hxs2 : xs.length + 1 ≤ sizeLine := by unfold sizeLine; omega
  have hx63 : (xs.length : Int) + 1 < 2 ^ 63 := by omega
  simp only [adr, adr_append, List.cons_append, List.append_assoc, List.nil_append] at hnd
  simp only [Seg, seg_append, firstK_nil, firstK_cons, firstK_append, lastRef, lastRef_append, firstRef, List.cons_append, List.nil_append, and_true, true_and, and_assoc] at hsg hdc
  have hs : [c, dc, d].Nodup := List.Sublist.nodup ((.cons_cons _ (.cons_cons _ (.cons_cons _ (List.nil_sublist _))))) hnd
  simp only [List.nodup_cons, List.mem_cons, List.not_mem_nil, or_false, not_or, List.nodup_nil, not_false_eq_true, and_true] at hs
  obtain ⟨⟨_, _⟩, _⟩ := hs
  refine add_first B F X T hk hd hu (by simp only [List.nodup_cons, List.mem_cons, List.not_mem_nil, or_false, not_or, List.nodup_nil, not_false_eq_true, and_true]; (repeat' apply And.intro) <;> first | assumption | exact Ne.symm (by assumption)) hxs hkx.1 hnk (by rw [hnx]; rfl) hxs1 C.sysd hx63 (by rw [hxl]; exact hle) (news_cons (C.new F (by first | (simp; done) | (simp [adr, adr_append]; done)) C.inst) (news_cons (C.new F (by first | (simp; done) | (simp [adr, adr_append]; done)) hdc) (news_cons (C.new F (by first | (simp; done) | (simp [adr, adr_append]; done)) hdd) news_nil))) (fun h' tk' xa dxa tx1 tx2 tx3 tx4 tx5 tx6 F' N' K' Z' hxn hxd => ?_)
  have hT : ∀ b ∈ [c, dc, d], b = gk ∨ b ∈ c :: dc :: d :: adr [] := by simp [adr, adr_append]
  have hT2 : ∀ b ∈ [c, dc, d], b ∈ c :: dc :: d :: adr [] := by simp [adr, adr_append]
  have nx : s.heap.get? xa = none := (Z' _ (.tail _ (.tail _ (.tail _ (.head _))))).resolve_left fun hm => (hxn _ hm).1 rfl
  have ndx : s.heap.get? dxa = none := (Z' _ (.tail _ (.tail _ (.tail _ (.tail _ (.head _)))))).resolve_left fun hm => (hxn _ hm).2 rfl
  let ow' : Addr → Nat := fun b => if b = xa ∨ b = dxa then k else ow b
  have he : ∀ a o, s.heap.get? a = some o → ow' a = ow a := fun a o g => by
    have n1 : a ≠ xa := fun e => by rw [e, nx] at g; cases g
    have n2 : a ≠ dxa := fun e => by rw [e, ndx] at g; cases g
    show (if a = xa ∨ a = dxa then k else ow a) = ow a
    rw [if_neg (by rintro (e | e); exact n1 e; exact n2 e)]
  have ox : ow' xa = k := if_pos (.inl rfl)
  have odx : ow' dxa = k := if_pos (.inr rfl)
  obtain ⟨m2, m3, m4, m5⟩ := ents_more (xa := xa) (dxa := dxa) (f := f) (i := i) (vt := vt) hxs hxo hxl hxk hkx hnx
  have sg : Seg w.params h' .none ((⟨xa, dxa, q, key, i, vt, f⟩ : Rec) :: []) .none := by
    simp only [Seg, seg_append, firstK_nil, firstK_cons, firstK_append, lastRef, lastRef_append, and_true, and_assoc, List.cons_append, List.nil_append]
    exact ⟨(N' _ (.tail _ (.tail _ (.tail _ (.head _))))).1, _, _, _, _, _, _, (N' _ (.tail _ (.tail _ (.tail _ (.tail _ (.head _)))))).1⟩
  exact ret h' tk' ow' xa dxa F' he (C.added (kept := []) (rest := []) hk98 K' hT hgk (by simp) he (N' _ (.tail _ (.tail _ (.tail _ (.head _))))) (N' _ (.tail _ (.tail _ (.tail _ (.tail _ (.head _)))))).2 ox odx nx ndx hxd hkx hno htl (N' _ (.head _)).1 (by simp only [firstRef, lastRef, lastRef_append, List.cons_append, List.nil_append]; exact ⟨_, _, _, _, _, _, _, (N' _ (.tail _ (.head _))).1⟩) (N' _ (.tail _ (.tail _ (.head _)))).1 m2 m3 m4 m5 sg hsm) (K'.weaken hT2)

set_option maxHeartbeats 2000000 in
theorem adds_one {dp un : Nat} {gd : Option (List Code)} {cn : Str} {cs : Scope} {a : Addr} {ccd : Value} {cl : List (Str × Addr)} {outer : List Env} {A₀ : Around} {base h₀ : Heap} {L : Addr} {m : Str → Option Value} {s : Shared} {Q E : Value → Shared → Prop}
    {ow : Addr → Nat} {k : Nat} {M : Int} {gk c dc d : Addr} {q : Key} {key : Value} {i : Int} {vt : Tok} {f : Addr} {r : Rec}
    (B : Below A₀ base outer h₀) (F : Fr h₀ L s.heap m) (X : (hd.heap_39 w.params).In h₀) (T : Top p loose mean mg mb h₀) (hk : cs.kind = .function) (hd : dp + 60 < recursionLimit) (hu : un + 700 < cLine) (hk98 : k ≠ 98) (hgk : ow gk ≠ 98)
    (C : CacheAt prog w s.heap ow k h₀ L M gk c dc d [r]) (hkx : IsKeyW prog w s.heap ow q key) (hno : q ∉ ([r] : List Rec).map (·.key))
    (htl : ∃ qual pm ctv c' cg ck lg gs, TellerAt s.heap f k gk qual pm ctv c' cg ck lg gs ∧ ∀ a ∈ [f, c', cg, ck, lg], ow a = 98)
    (hle : (([r] : List Rec).length : Int) + 1 ≤ M) (hsm : ([r] : List Rec).length + 1 ≤ 100)
    (ret : ∀ h' tk' ow' xa dxa, Fr h₀ L h' m → (∀ a o, s.heap.get? a = some o → ow' a = ow a) → CacheAt prog w h' ow' k h₀ L M gk c dc d (⟨xa, dxa, q, key, i, vt, f⟩ :: [r]) → Keep s.heap h' (c :: dc :: d :: adr [r]) → Q .none { s with heap := h', toks := tk' }) :
    wpAny (model prog w) (ktrTop dp un gd cn cs L a ccd cl outer) (call (.ref 101) [.ref c, key, .int i vt, .ref f]) Q E s := by
  have hnd := C.nodup
  have hsg := C.seg
  obtain ⟨tc1, tc2, tc3, tc4, tc5, tm, ta, hdc⟩ := C.dict
  obtain ⟨xs, n, hdd, hxs, hxo, hxl, hxk⟩ := C.ents
  have hnx : look xs q = none := look_none_iff.mpr fun hq => hno ((C.keysOf_iff hxl hxk q).mp hq)
  have hnk : q ∉ keysOf xs := look_none_iff.mp hnx
  have hsm2 := C.small
  have hxs1 : xs.length ≤ sizeLine := by unfold sizeLine; omega
  have hxs2 : xs.length + 1 ≤ sizeLine := by unfold sizeLine; omega
  have hx63 : (xs.length : Int) + 1 < 2 ^ 63 := by omega
  simp only [adr, adr_append, List.cons_append, List.append_assoc, List.nil_append] at hnd
  simp only [Seg, seg_append, firstK_nil, firstK_cons, firstK_append, lastRef, lastRef_append, firstRef, List.cons_append, List.nil_append, and_true, true_and, and_assoc] at hsg hdc
  have hs : [c, dc, d, r.x, r.dx].Nodup := List.Sublist.nodup ((.cons_cons _ (.cons_cons _ (.cons_cons _ (.cons_cons _ (.cons_cons _ (List.nil_sublist _))))))) hnd
  simp only [List.nodup_cons, List.mem_cons, List.not_mem_nil, or_false, not_or, List.nodup_nil, not_false_eq_true, and_true] at hs
  obtain ⟨⟨_, _, _, _⟩, ⟨_, _, _⟩, ⟨_, _⟩, _⟩ := hs
  have hr0 := hsg
  obtain ⟨hr1, tr1, tr2, tr3, tr4, tr5, tr6, hr2⟩ := hr0
  have hr := And.intro hr1 hr2
  refine add_one B F X T hk hd hu (by simp only [List.nodup_cons, List.mem_cons, List.not_mem_nil, or_false, not_or, List.nodup_nil, not_false_eq_true, and_true]; (repeat' apply And.intro) <;> first | assumption | exact Ne.symm (by assumption)) hxs hkx.1 hnk (by rw [hnx]; rfl) hxs1 C.sysd hx63 (by rw [hxl]; exact hle) (C.keys r (by simp)).1.handed (news_cons (C.new F (by first | (simp; done) | (simp [adr, adr_append]; done)) C.inst) (news_cons (C.new F (by first | (simp; done) | (simp [adr, adr_append]; done)) hdc) (news_cons (C.new F (by first | (simp; done) | (simp [adr, adr_append]; done)) hdd) (news_cons (C.new F (by first | (simp; done) | (simp [adr, adr_append]; done)) hr.1) (news_cons (C.new F (by first | (simp; done) | (simp [adr, adr_append]; done)) hr.2) news_nil))))) (fun h' tk' xa dxa tx1 tx2 tx3 tx4 tx5 tx6 F' N' K' Z' hxn hxd => ?_)
  have hT : ∀ b ∈ [c, dc, d, r.x, r.dx], b = gk ∨ b ∈ c :: dc :: d :: adr [r] := by simp [adr, adr_append]
  have hT2 : ∀ b ∈ [c, dc, d, r.x, r.dx], b ∈ c :: dc :: d :: adr [r] := by simp [adr, adr_append]
  have nx : s.heap.get? xa = none := (Z' _ (.tail _ (.tail _ (.tail _ (.head _))))).resolve_left fun hm => (hxn _ hm).1 rfl
  have ndx : s.heap.get? dxa = none := (Z' _ (.tail _ (.tail _ (.tail _ (.tail _ (.head _)))))).resolve_left fun hm => (hxn _ hm).2 rfl
  let ow' : Addr → Nat := fun b => if b = xa ∨ b = dxa then k else ow b
  have he : ∀ a o, s.heap.get? a = some o → ow' a = ow a := fun a o g => by
    have n1 : a ≠ xa := fun e => by rw [e, nx] at g; cases g
    have n2 : a ≠ dxa := fun e => by rw [e, ndx] at g; cases g
    show (if a = xa ∨ a = dxa then k else ow a) = ow a
    rw [if_neg (by rintro (e | e); exact n1 e; exact n2 e)]
  have ox : ow' xa = k := if_pos (.inl rfl)
  have odx : ow' dxa = k := if_pos (.inr rfl)
  obtain ⟨m2, m3, m4, m5⟩ := ents_more (xa := xa) (dxa := dxa) (f := f) (i := i) (vt := vt) hxs hxo hxl hxk hkx hnx
  have sg : Seg w.params h' .none ((⟨xa, dxa, q, key, i, vt, f⟩ : Rec) :: [r]) .none := by
    simp only [Seg, seg_append, firstK_nil, firstK_cons, firstK_append, lastRef, lastRef_append, and_true, and_assoc, List.cons_append, List.nil_append]
    exact ⟨⟨(N' _ (.tail _ (.tail _ (.tail _ (.head _))))).1, _, _, _, _, _, _, (N' _ (.tail _ (.tail _ (.tail _ (.tail _ (.head _)))))).1⟩, ⟨(N' _ (.tail _ (.tail _ (.tail _ (.tail _ (.tail _ (.head _))))))).1, _, _, _, _, _, _, (N' _ (.tail _ (.tail _ (.tail _ (.tail _ (.tail _ (.tail _ (.head _)))))))).1⟩⟩
  exact ret h' tk' ow' xa dxa F' he (C.added (kept := [r]) (rest := []) hk98 K' hT hgk (by simp) he (N' _ (.tail _ (.tail _ (.tail _ (.head _))))) (N' _ (.tail _ (.tail _ (.tail _ (.tail _ (.head _)))))).2 ox odx nx ndx hxd hkx hno htl (N' _ (.head _)).1 (by simp only [firstRef, lastRef, lastRef_append, List.cons_append, List.nil_append]; exact ⟨_, _, _, _, _, _, _, (N' _ (.tail _ (.head _))).1⟩) (N' _ (.tail _ (.tail _ (.head _)))).1 m2 m3 m4 m5 sg hsm) (K'.weaken hT2)

set_option maxHeartbeats 2000000 in
theorem adds_more {dp un : Nat} {gd : Option (List Code)} {cn : Str} {cs : Scope} {a : Addr} {ccd : Value} {cl : List (Str × Addr)} {outer : List Env} {A₀ : Around} {base h₀ : Heap} {L : Addr} {m : Str → Option Value} {s : Shared} {Q E : Value → Shared → Prop}
    {ow : Addr → Nat} {k : Nat} {M : Int} {gk c dc d : Addr} {q : Key} {key : Value} {i : Int} {vt : Tok} {f : Addr} {r l : Rec} {R : List Rec}
    (B : Below A₀ base outer h₀) (F : Fr h₀ L s.heap m) (X : (hd.heap_39 w.params).In h₀) (T : Top p loose mean mg mb h₀) (hk : cs.kind = .function) (hd : dp + 60 < recursionLimit) (hu : un + 700 < cLine) (hk98 : k ≠ 98) (hgk : ow gk ≠ 98)
    (C : CacheAt prog w s.heap ow k h₀ L M gk c dc d (r :: (R ++ [l]))) (hkx : IsKeyW prog w s.heap ow q key) (hno : q ∉ ((r :: (R ++ [l])) : List Rec).map (·.key))
    (htl : ∃ qual pm ctv c' cg ck lg gs, TellerAt s.heap f k gk qual pm ctv c' cg ck lg gs ∧ ∀ a ∈ [f, c', cg, ck, lg], ow a = 98)
    (hle : (((r :: (R ++ [l])) : List Rec).length : Int) + 1 ≤ M) (hsm : ((r :: (R ++ [l])) : List Rec).length + 1 ≤ 100)
    (ret : ∀ h' tk' ow' xa dxa, Fr h₀ L h' m → (∀ a o, s.heap.get? a = some o → ow' a = ow a) → CacheAt prog w h' ow' k h₀ L M gk c dc d (⟨xa, dxa, q, key, i, vt, f⟩ :: (r :: (R ++ [l]))) → Keep s.heap h' (c :: dc :: d :: adr (r :: (R ++ [l]))) → Q .none { s with heap := h', toks := tk' }) :
    wpAny (model prog w) (ktrTop dp un gd cn cs L a ccd cl outer) (call (.ref 101) [.ref c, key, .int i vt, .ref f]) Q E s := by
  have hnd := C.nodup
  have hsg := C.seg
  obtain ⟨tc1, tc2, tc3, tc4, tc5, tm, ta, hdc⟩ := C.dict
  obtain ⟨xs, n, hdd, hxs, hxo, hxl, hxk⟩ := C.ents
  have hnx : look xs q = none := look_none_iff.mpr fun hq => hno ((C.keysOf_iff hxl hxk q).mp hq)
  have hnk : q ∉ keysOf xs := look_none_iff.mp hnx
  have hsm2 := C.small
  have hxs1 : xs.length ≤ sizeLine := by unfold sizeLine; omega
  have hxs2 : xs.length + 1 ≤ sizeLine := by unfold sizeLine; omega
  have hx63 : (xs.length : Int) + 1 < 2 ^ 63 := by omega
  simp only [adr, adr_append, List.cons_append, List.append_assoc, List.nil_append] at hnd
  simp only [Seg, seg_append, firstK_nil, firstK_cons, firstK_append, lastRef, lastRef_append, firstRef, List.cons_append, List.nil_append, and_true, true_and, and_assoc] at hsg hdc
  have hs : [c, dc, d, r.x, r.dx, l.x].Nodup := List.Sublist.nodup ((.cons_cons _ (.cons_cons _ (.cons_cons _ (.cons_cons _ (.cons_cons _ (List.singleton_sublist.mpr (by simp [adr, adr_append])))))))) hnd
  simp only [List.nodup_cons, List.mem_cons, List.not_mem_nil, or_false, not_or, List.nodup_nil, not_false_eq_true, and_true] at hs
  obtain ⟨⟨_, _, _, _, _⟩, ⟨_, _, _, _⟩, ⟨_, _, _⟩, ⟨_, _⟩, _⟩ := hs
  obtain ⟨hr0, hsR, hl0⟩ := hsg
  obtain ⟨hr1, tr1, tr2, tr3, tr4, tr5, tr6, hr2⟩ := hr0
  have hr := And.intro hr1 hr2
  obtain ⟨hl1, tl1, tl2, tl3, tl4, tl5, tl6, hl2⟩ := hl0
  have hl := And.intro hl1 hl2
  refine add_more B F X T hk hd hu (by simp only [List.nodup_cons, List.mem_cons, List.not_mem_nil, or_false, not_or, List.nodup_nil, not_false_eq_true, and_true]; (repeat' apply And.intro) <;> first | assumption | exact Ne.symm (by assumption)) hxs hkx.1 hnk (by rw [hnx]; rfl) hxs1 C.sysd hx63 (by rw [hxl]; exact hle) hl1 (C.keys r (by simp)).1.handed (news_cons (C.new F (by first | (simp; done) | (simp [adr, adr_append]; done)) C.inst) (news_cons (C.new F (by first | (simp; done) | (simp [adr, adr_append]; done)) hdc) (news_cons (C.new F (by first | (simp; done) | (simp [adr, adr_append]; done)) hdd) (news_cons (C.new F (by first | (simp; done) | (simp [adr, adr_append]; done)) hr.1) (news_cons (C.new F (by first | (simp; done) | (simp [adr, adr_append]; done)) hr.2) news_nil))))) (fun h' tk' xa dxa tx1 tx2 tx3 tx4 tx5 tx6 F' N' K' Z' hxn hxd => ?_)
  have hT : ∀ b ∈ [c, dc, d, r.x, r.dx], b = gk ∨ b ∈ c :: dc :: d :: adr (r :: (R ++ [l])) := by simp [adr, adr_append]
  have hT2 : ∀ b ∈ [c, dc, d, r.x, r.dx], b ∈ c :: dc :: d :: adr (r :: (R ++ [l])) := by simp [adr, adr_append]
  have nx : s.heap.get? xa = none := (Z' _ (.tail _ (.tail _ (.tail _ (.head _))))).resolve_left fun hm => (hxn _ hm).1 rfl
  have ndx : s.heap.get? dxa = none := (Z' _ (.tail _ (.tail _ (.tail _ (.tail _ (.head _)))))).resolve_left fun hm => (hxn _ hm).2 rfl
  let ow' : Addr → Nat := fun b => if b = xa ∨ b = dxa then k else ow b
  have he : ∀ a o, s.heap.get? a = some o → ow' a = ow a := fun a o g => by
    have n1 : a ≠ xa := fun e => by rw [e, nx] at g; cases g
    have n2 : a ≠ dxa := fun e => by rw [e, ndx] at g; cases g
    show (if a = xa ∨ a = dxa then k else ow a) = ow a
    rw [if_neg (by rintro (e | e); exact n1 e; exact n2 e)]
  have ox : ow' xa = k := if_pos (.inl rfl)
  have odx : ow' dxa = k := if_pos (.inr rfl)
  obtain ⟨m2, m3, m4, m5⟩ := ents_more (xa := xa) (dxa := dxa) (f := f) (i := i) (vt := vt) hxs hxo hxl hxk hkx hnx
  have hoR : ∀ b ∈ (adr R ++ [l.x, l.dx]), b ∉ [c, dc, d, r.x, r.dx] := fun b hb hT9 => off_of_nodup (ads := [c, dc, d, r.x, r.dx]) (by simpa only [List.cons_append, List.append_assoc, List.nil_append] using hnd) b hb ((by simp : ∀ b ∈ [c, dc, d, r.x, r.dx], b ∈ [c, dc, d, r.x, r.dx]) b hT9)
  have sg : Seg w.params h' .none ((⟨xa, dxa, q, key, i, vt, f⟩ : Rec) :: (r :: (R ++ [l]))) .none := by
    simp only [Seg, seg_append, firstK_nil, firstK_cons, firstK_append, lastRef, lastRef_append, and_true, and_assoc, List.cons_append, List.nil_append]
    exact ⟨⟨(N' _ (.tail _ (.tail _ (.tail _ (.head _))))).1, _, _, _, _, _, _, (N' _ (.tail _ (.tail _ (.tail _ (.tail _ (.head _)))))).1⟩, ⟨(N' _ (.tail _ (.tail _ (.tail _ (.tail _ (.tail _ (.head _))))))).1, _, _, _, _, _, _, (N' _ (.tail _ (.tail _ (.tail _ (.tail _ (.tail _ (.tail _ (.head _)))))))).1⟩, hsR.keep (fun b hb o e => K' b o e (hoR b (List.mem_append_left _ hb))), (NodeAt.keep ⟨hl1, _, _, _, _, _, _, hl2⟩ (fun b hb o e => K' b o e (hoR b (List.mem_append_right _ hb))))⟩
  exact ret h' tk' ow' xa dxa F' he (C.added (kept := (r :: (R ++ [l]))) (rest := []) hk98 K' hT hgk (by simp) he (N' _ (.tail _ (.tail _ (.tail _ (.head _))))) (N' _ (.tail _ (.tail _ (.tail _ (.tail _ (.head _)))))).2 ox odx nx ndx hxd hkx hno htl (N' _ (.head _)).1 (by simp only [firstRef, lastRef, lastRef_append, List.cons_append, List.nil_append]; exact ⟨_, _, _, _, _, _, _, (N' _ (.tail _ (.head _))).1⟩) (N' _ (.tail _ (.tail _ (.head _)))).1 m2 m3 m4 m5 sg hsm) (K'.weaken hT2)

set_option maxHeartbeats 2000000 in
theorem adds_full1 {dp un : Nat} {gd : Option (List Code)} {cn : Str} {cs : Scope} {a : Addr} {ccd : Value} {cl : List (Str × Addr)} {outer : List Env} {A₀ : Around} {base h₀ : Heap} {L : Addr} {m : Str → Option Value} {s : Shared} {Q E : Value → Shared → Prop}
    {ow : Addr → Nat} {k : Nat} {M : Int} {gk c dc d : Addr} {q : Key} {key : Value} {i : Int} {vt : Tok} {f : Addr} {l : Rec} {its : Array Value} {ng : Nat}
    (B : Below A₀ base outer h₀) (F : Fr h₀ L s.heap m) (X : (hd.heap_39 w.params).In h₀) (T : Top p loose mean mg mb h₀) (hk : cs.kind = .function) (hd : dp + 60 < recursionLimit) (hu : un + 700 < cLine) (hk98 : k ≠ 98) (hgk : ow gk ≠ 98)
    (C : CacheAt prog w s.heap ow k h₀ L M gk c dc d [l]) (hkx : IsKeyW prog w s.heap ow q key) (hno : q ∉ ([l] : List Rec).map (·.key))
    (htl : ∃ qual pm ctv c' cg ck lg gs, TellerAt s.heap f k gk qual pm ctv c' cg ck lg gs ∧ ∀ a ∈ [f, c', cg, ck, lg], ow a = 98)
    (hlen : (([l] : List Rec).length : Int) = M) (hsz : its.size ≤ sizeLine) (hgl : s.heap.get? gk = some (listOf its ng)) (hgn : gk ≠ L ∧ h₀.get? gk = none) (hgo : ow gk ≠ k) (hsm : ([] : List Rec).length + 1 ≤ 100)
    (ret : ∀ h' tk' ow' xa dxa t, Fr h₀ L h' m → (∀ a o, s.heap.get? a = some o → ow' a = ow a) → CacheAt prog w h' ow' k h₀ L M gk c dc d (⟨xa, dxa, q, key, i, vt, f⟩ :: []) → Keep s.heap h' (gk :: c :: dc :: d :: adr [l]) → h'.get? gk = some (listOf (its.push (.ref t)) (ng + 1)) → h'.get? t = some (tupOf [l.kv, .int l.i l.vt]) → s.heap.get? t = none → t ≠ L → h₀.get? t = none → ow' t = 98 → Q .none { s with heap := h', toks := tk' }) :
    wpAny (model prog w) (ktrTop dp un gd cn cs L a ccd cl outer) (call (.ref 101) [.ref c, key, .int i vt, .ref f]) Q E s := by
  have hnd := C.nodup
  have hsg := C.seg
  obtain ⟨tc1, tc2, tc3, tc4, tc5, tm, ta, hdc⟩ := C.dict
  obtain ⟨xs, n, hdd, hxs, hxo, hxl, hxk⟩ := C.ents
  have hnx : look xs q = none := look_none_iff.mpr fun hq => hno ((C.keysOf_iff hxl hxk q).mp hq)
  have hnk : q ∉ keysOf xs := look_none_iff.mp hnx
  have hsm2 := C.small
  have hxs1 : xs.length ≤ sizeLine := by unfold sizeLine; omega
  have hxs2 : xs.length + 1 ≤ sizeLine := by unfold sizeLine; omega
  have hx63 : (xs.length : Int) + 1 < 2 ^ 63 := by omega
  simp only [adr, adr_append, List.cons_append, List.append_assoc, List.nil_append] at hnd
  simp only [Seg, seg_append, firstK_nil, firstK_cons, firstK_append, lastRef, lastRef_append, firstRef, List.cons_append, List.nil_append, and_true, true_and, and_assoc] at hsg hdc
  have hs : [c, dc, d, l.x, l.dx].Nodup := List.Sublist.nodup ((.cons_cons _ (.cons_cons _ (.cons_cons _ (.cons_cons _ (.cons_cons _ (List.nil_sublist _))))))) hnd
  simp only [List.nodup_cons, List.mem_cons, List.not_mem_nil, or_false, not_or, List.nodup_nil, not_false_eq_true, and_true] at hs
  obtain ⟨⟨_, _, _, _⟩, ⟨_, _, _⟩, ⟨_, _⟩, _⟩ := hs
  have hl0 := hsg
  obtain ⟨hl1, tl1, tl2, tl3, tl4, tl5, tl6, hl2⟩ := hl0
  have hl := And.intro hl1 hl2
  obtain ⟨qual, pm, ctv, c2, cg, ck, lg, gs, tl, tlo⟩ := C.tell l (by simp)
  have htn := tl.nodup
  simp only [List.nodup_cons, List.mem_cons, List.not_mem_nil, or_false, not_or, List.nodup_nil, not_false_eq_true, and_true] at htn
  obtain ⟨⟨_, _, _, _⟩, ⟨_, _, _⟩, ⟨_, _⟩, _⟩ := htn
  have : c ≠ l.f := fun e => hk98 (((C.own c (by first | (simp; done) | (simp [adr, adr_append]; done))).1.symm.trans (congrArg ow e)).trans (tlo _ (by simp)))
  have : c ≠ c2 := fun e => hk98 (((C.own c (by first | (simp; done) | (simp [adr, adr_append]; done))).1.symm.trans (congrArg ow e)).trans (tlo _ (by simp)))
  have : c ≠ cg := fun e => hk98 (((C.own c (by first | (simp; done) | (simp [adr, adr_append]; done))).1.symm.trans (congrArg ow e)).trans (tlo _ (by simp)))
  have : c ≠ ck := fun e => hk98 (((C.own c (by first | (simp; done) | (simp [adr, adr_append]; done))).1.symm.trans (congrArg ow e)).trans (tlo _ (by simp)))
  have : c ≠ lg := fun e => hk98 (((C.own c (by first | (simp; done) | (simp [adr, adr_append]; done))).1.symm.trans (congrArg ow e)).trans (tlo _ (by simp)))
  have : c ≠ gk := fun e => hgo ((congrArg ow e).symm.trans (C.own c (by first | (simp; done) | (simp [adr, adr_append]; done))).1)
  have : dc ≠ l.f := fun e => hk98 (((C.own dc (by first | (simp; done) | (simp [adr, adr_append]; done))).1.symm.trans (congrArg ow e)).trans (tlo _ (by simp)))
  have : dc ≠ c2 := fun e => hk98 (((C.own dc (by first | (simp; done) | (simp [adr, adr_append]; done))).1.symm.trans (congrArg ow e)).trans (tlo _ (by simp)))
  have : dc ≠ cg := fun e => hk98 (((C.own dc (by first | (simp; done) | (simp [adr, adr_append]; done))).1.symm.trans (congrArg ow e)).trans (tlo _ (by simp)))
  have : dc ≠ ck := fun e => hk98 (((C.own dc (by first | (simp; done) | (simp [adr, adr_append]; done))).1.symm.trans (congrArg ow e)).trans (tlo _ (by simp)))
  have : dc ≠ lg := fun e => hk98 (((C.own dc (by first | (simp; done) | (simp [adr, adr_append]; done))).1.symm.trans (congrArg ow e)).trans (tlo _ (by simp)))
  have : dc ≠ gk := fun e => hgo ((congrArg ow e).symm.trans (C.own dc (by first | (simp; done) | (simp [adr, adr_append]; done))).1)
  have : d ≠ l.f := fun e => hk98 (((C.own d (by first | (simp; done) | (simp [adr, adr_append]; done))).1.symm.trans (congrArg ow e)).trans (tlo _ (by simp)))
  have : d ≠ c2 := fun e => hk98 (((C.own d (by first | (simp; done) | (simp [adr, adr_append]; done))).1.symm.trans (congrArg ow e)).trans (tlo _ (by simp)))
  have : d ≠ cg := fun e => hk98 (((C.own d (by first | (simp; done) | (simp [adr, adr_append]; done))).1.symm.trans (congrArg ow e)).trans (tlo _ (by simp)))
  have : d ≠ ck := fun e => hk98 (((C.own d (by first | (simp; done) | (simp [adr, adr_append]; done))).1.symm.trans (congrArg ow e)).trans (tlo _ (by simp)))
  have : d ≠ lg := fun e => hk98 (((C.own d (by first | (simp; done) | (simp [adr, adr_append]; done))).1.symm.trans (congrArg ow e)).trans (tlo _ (by simp)))
  have : d ≠ gk := fun e => hgo ((congrArg ow e).symm.trans (C.own d (by first | (simp; done) | (simp [adr, adr_append]; done))).1)
  have : l.x ≠ l.f := fun e => hk98 (((C.own l.x (by first | (simp; done) | (simp [adr, adr_append]; done))).1.symm.trans (congrArg ow e)).trans (tlo _ (by simp)))
  have : l.x ≠ c2 := fun e => hk98 (((C.own l.x (by first | (simp; done) | (simp [adr, adr_append]; done))).1.symm.trans (congrArg ow e)).trans (tlo _ (by simp)))
  have : l.x ≠ cg := fun e => hk98 (((C.own l.x (by first | (simp; done) | (simp [adr, adr_append]; done))).1.symm.trans (congrArg ow e)).trans (tlo _ (by simp)))
  have : l.x ≠ ck := fun e => hk98 (((C.own l.x (by first | (simp; done) | (simp [adr, adr_append]; done))).1.symm.trans (congrArg ow e)).trans (tlo _ (by simp)))
  have : l.x ≠ lg := fun e => hk98 (((C.own l.x (by first | (simp; done) | (simp [adr, adr_append]; done))).1.symm.trans (congrArg ow e)).trans (tlo _ (by simp)))
  have : l.x ≠ gk := fun e => hgo ((congrArg ow e).symm.trans (C.own l.x (by first | (simp; done) | (simp [adr, adr_append]; done))).1)
  have : l.dx ≠ l.f := fun e => hk98 (((C.own l.dx (by first | (simp; done) | (simp [adr, adr_append]; done))).1.symm.trans (congrArg ow e)).trans (tlo _ (by simp)))
  have : l.dx ≠ c2 := fun e => hk98 (((C.own l.dx (by first | (simp; done) | (simp [adr, adr_append]; done))).1.symm.trans (congrArg ow e)).trans (tlo _ (by simp)))
  have : l.dx ≠ cg := fun e => hk98 (((C.own l.dx (by first | (simp; done) | (simp [adr, adr_append]; done))).1.symm.trans (congrArg ow e)).trans (tlo _ (by simp)))
  have : l.dx ≠ ck := fun e => hk98 (((C.own l.dx (by first | (simp; done) | (simp [adr, adr_append]; done))).1.symm.trans (congrArg ow e)).trans (tlo _ (by simp)))
  have : l.dx ≠ lg := fun e => hk98 (((C.own l.dx (by first | (simp; done) | (simp [adr, adr_append]; done))).1.symm.trans (congrArg ow e)).trans (tlo _ (by simp)))
  have : l.dx ≠ gk := fun e => hgo ((congrArg ow e).symm.trans (C.own l.dx (by first | (simp; done) | (simp [adr, adr_append]; done))).1)
  have : gk ≠ l.f := fun e => hgk ((congrArg ow e).trans (tlo _ (by simp)))
  have : gk ≠ c2 := fun e => hgk ((congrArg ow e).trans (tlo _ (by simp)))
  have : gk ≠ cg := fun e => hgk ((congrArg ow e).trans (tlo _ (by simp)))
  have : gk ≠ ck := fun e => hgk ((congrArg ow e).trans (tlo _ (by simp)))
  have : gk ≠ lg := fun e => hgk ((congrArg ow e).trans (tlo _ (by simp)))
  refine add_full1 B F X T hk hd hu (by simp only [List.nodup_cons, List.mem_cons, List.not_mem_nil, or_false, not_or, List.nodup_nil, not_false_eq_true, and_true]; (repeat' apply And.intro) <;> first | assumption | exact Ne.symm (by assumption)) hxs hkx.1 hnk (by rw [hnx]; rfl) hxs1 C.sysd hx63 tl hsz (C.keys l (by simp)).1 (hxk l (by simp)) (C.keys l (by simp)).1.handed (C.keys l (by simp)).1.handed rfl (by rw [hxl]; exact hlen) hxs2 (news_cons (C.new F (by first | (simp; done) | (simp [adr, adr_append]; done)) C.inst) (news_cons (C.new F (by first | (simp; done) | (simp [adr, adr_append]; done)) hdc) (news_cons (C.new F (by first | (simp; done) | (simp [adr, adr_append]; done)) hdd) (news_cons (C.new F (by first | (simp; done) | (simp [adr, adr_append]; done)) hl.1) (news_cons (C.new F (by first | (simp; done) | (simp [adr, adr_append]; done)) hl.2) (news_cons ⟨hgl, hgn⟩ news_nil)))))) (fun h' tk' xa dxa t tx1 tx2 tx3 tx4 tx5 tx6 F' N' K' Z' hxn hxd => ?_)
  have hT : ∀ b ∈ [c, dc, d, l.x, l.dx, gk], b = gk ∨ b ∈ c :: dc :: d :: adr [l] := by simp [adr, adr_append]
  have hT2 : ∀ b ∈ [c, dc, d, l.x, l.dx, gk], b ∈ gk :: c :: dc :: d :: adr [l] := by simp [adr, adr_append]
  have nx : s.heap.get? xa = none := (Z' _ (.tail _ (.tail _ (.tail _ (.tail _ (.tail _ (.tail _ (.tail _ (.head _))))))))).resolve_left fun hm => (hxn _ hm).1 rfl
  have ndx : s.heap.get? dxa = none := (Z' _ (.tail _ (.tail _ (.tail _ (.tail _ (.tail _ (.tail _ (.tail _ (.tail _ (.head _)))))))))).resolve_left fun hm => (hxn _ hm).2 rfl
  have htb : ∀ b ∈ [c, dc, d, l.x, l.dx, gk], t ≠ b := by
    simp only [List.forall_mem_cons]
    exact ⟨ne_of_cls N' (.head _) (.tail _ (.tail _ (.tail _ (.tail _ (.head _))))) (by dsimp only [tupOf, nodeD, cacheD, dictK, dictOf, instObj, W.listOf]; decide), ne_of_cls N' (.head _) (.tail _ (.tail _ (.tail _ (.tail _ (.tail _ (.head _)))))) (by dsimp only [tupOf, nodeD, cacheD, dictK, dictOf, instObj, W.listOf]; decide), ne_of_cls N' (.head _) (.tail _ (.tail _ (.tail _ (.tail _ (.tail _ (.tail _ (.head _))))))) (by dsimp only [tupOf, nodeD, cacheD, dictK, dictOf, instObj, W.listOf]; decide), ne_of_cls N' (.head _) (.tail _ (.tail _ (.head _))) (by dsimp only [tupOf, nodeD, cacheD, dictK, dictOf, instObj, W.listOf]; decide), ne_of_cls N' (.head _) (.tail _ (.tail _ (.tail _ (.head _)))) (by dsimp only [tupOf, nodeD, cacheD, dictK, dictOf, instObj, W.listOf]; decide), ne_of_cls N' (.head _) (.tail _ (.head _)) (by dsimp only [tupOf, nodeD, cacheD, dictK, dictOf, instObj, W.listOf]; decide), nofun⟩
  have nt : s.heap.get? t = none := (Z' _ (.head _)).resolve_left fun hm => htb _ hm rfl
  have t1 : t ≠ xa := ne_of_cls N' (.head _) (.tail _ (.tail _ (.tail _ (.tail _ (.tail _ (.tail _ (.tail _ (.head _)))))))) (by dsimp only [tupOf, nodeD, cacheD, dictK, dictOf, instObj, W.listOf]; decide)
  have t2 : t ≠ dxa := ne_of_cls N' (.head _) (.tail _ (.tail _ (.tail _ (.tail _ (.tail _ (.tail _ (.tail _ (.tail _ (.head _))))))))) (by dsimp only [tupOf, nodeD, cacheD, dictK, dictOf, instObj, W.listOf]; decide)
  let ow' : Addr → Nat := fun b => if b = xa ∨ b = dxa then k else if b = t then 98 else ow b
  have he : ∀ a o, s.heap.get? a = some o → ow' a = ow a := fun a o g => by
    have n1 : a ≠ xa := fun e => by rw [e, nx] at g; cases g
    have n2 : a ≠ dxa := fun e => by rw [e, ndx] at g; cases g
    have n3 : a ≠ t := fun e => by rw [e, nt] at g; cases g
    show (if a = xa ∨ a = dxa then k else if a = t then 98 else ow a) = ow a
    rw [if_neg (by rintro (e | e); exact n1 e; exact n2 e), if_neg n3]
  have ox : ow' xa = k := if_pos (.inl rfl)
  have odx : ow' dxa = k := if_pos (.inr rfl)
  have ot : ow' t = 98 := by
    show (if t = xa ∨ t = dxa then k else if t = t then 98 else ow t) = 98
    rw [if_neg (by rintro (e | e); exact t1 e; exact t2 e), if_pos rfl]
  obtain ⟨m2, m3, m4, m5⟩ := ents_full (kept := []) (l := l) (xa := xa) (dxa := dxa) (f := f) (i := i) (vt := vt) hxs hxo hxl hxk hkx hnx C.nodupK hno
  have sg : Seg w.params h' .none ((⟨xa, dxa, q, key, i, vt, f⟩ : Rec) :: []) .none := by
    simp only [Seg, seg_append, firstK_nil, firstK_cons, firstK_append, lastRef, lastRef_append, and_true, and_assoc, List.cons_append, List.nil_append]
    exact ⟨(N' _ (.tail _ (.tail _ (.tail _ (.tail _ (.tail _ (.tail _ (.tail _ (.head _))))))))).1, _, _, _, _, _, _, (N' _ (.tail _ (.tail _ (.tail _ (.tail _ (.tail _ (.tail _ (.tail _ (.tail _ (.head _)))))))))).1⟩
  exact ret h' tk' ow' xa dxa t F' he (C.added (kept := []) (rest := [l]) hk98 K' hT hgk (by simp) he (N' _ (.tail _ (.tail _ (.tail _ (.tail _ (.tail _ (.tail _ (.tail _ (.head _))))))))) (N' _ (.tail _ (.tail _ (.tail _ (.tail _ (.tail _ (.tail _ (.tail _ (.tail _ (.head _)))))))))).2 ox odx nx ndx hxd hkx hno htl (N' _ (.tail _ (.tail _ (.tail _ (.tail _ (.head _)))))).1 (by simp only [firstRef, lastRef, lastRef_append, List.cons_append, List.nil_append]; exact ⟨_, _, _, _, _, _, _, (N' _ (.tail _ (.tail _ (.tail _ (.tail _ (.tail _ (.head _))))))).1⟩) (N' _ (.tail _ (.tail _ (.tail _ (.tail _ (.tail _ (.tail _ (.head _)))))))).1 m2 m3 m4 m5 sg hsm) (K'.weaken hT2) (N' _ (.tail _ (.head _))).1 (N' _ (.head _)).1 nt (N' _ (.head _)).2.1 (N' _ (.head _)).2.2 ot

set_option maxHeartbeats 2000000 in
theorem adds_full2 {dp un : Nat} {gd : Option (List Code)} {cn : Str} {cs : Scope} {a : Addr} {ccd : Value} {cl : List (Str × Addr)} {outer : List Env} {A₀ : Around} {base h₀ : Heap} {L : Addr} {m : Str → Option Value} {s : Shared} {Q E : Value → Shared → Prop}
    {ow : Addr → Nat} {k : Nat} {M : Int} {gk c dc d : Addr} {q : Key} {key : Value} {i : Int} {vt : Tok} {f : Addr} {r l : Rec} {its : Array Value} {ng : Nat}
    (B : Below A₀ base outer h₀) (F : Fr h₀ L s.heap m) (X : (hd.heap_39 w.params).In h₀) (T : Top p loose mean mg mb h₀) (hk : cs.kind = .function) (hd : dp + 60 < recursionLimit) (hu : un + 700 < cLine) (hk98 : k ≠ 98) (hgk : ow gk ≠ 98)
    (C : CacheAt prog w s.heap ow k h₀ L M gk c dc d [r, l]) (hkx : IsKeyW prog w s.heap ow q key) (hno : q ∉ ([r, l] : List Rec).map (·.key))
    (htl : ∃ qual pm ctv c' cg ck lg gs, TellerAt s.heap f k gk qual pm ctv c' cg ck lg gs ∧ ∀ a ∈ [f, c', cg, ck, lg], ow a = 98)
    (hlen : (([r, l] : List Rec).length : Int) = M) (hsz : its.size ≤ sizeLine) (hgl : s.heap.get? gk = some (listOf its ng)) (hgn : gk ≠ L ∧ h₀.get? gk = none) (hgo : ow gk ≠ k) (hsm : ([r] : List Rec).length + 1 ≤ 100)
    (ret : ∀ h' tk' ow' xa dxa t, Fr h₀ L h' m → (∀ a o, s.heap.get? a = some o → ow' a = ow a) → CacheAt prog w h' ow' k h₀ L M gk c dc d (⟨xa, dxa, q, key, i, vt, f⟩ :: [r]) → Keep s.heap h' (gk :: c :: dc :: d :: adr [r, l]) → h'.get? gk = some (listOf (its.push (.ref t)) (ng + 1)) → h'.get? t = some (tupOf [l.kv, .int l.i l.vt]) → s.heap.get? t = none → t ≠ L → h₀.get? t = none → ow' t = 98 → Q .none { s with heap := h', toks := tk' }) :
    wpAny (model prog w) (ktrTop dp un gd cn cs L a ccd cl outer) (call (.ref 101) [.ref c, key, .int i vt, .ref f]) Q E s := by
  have hnd := C.nodup
  have hsg := C.seg
  obtain ⟨tc1, tc2, tc3, tc4, tc5, tm, ta, hdc⟩ := C.dict
  obtain ⟨xs, n, hdd, hxs, hxo, hxl, hxk⟩ := C.ents
  have hnx : look xs q = none := look_none_iff.mpr fun hq => hno ((C.keysOf_iff hxl hxk q).mp hq)
  have hnk : q ∉ keysOf xs := look_none_iff.mp hnx
  have hsm2 := C.small
  have hxs1 : xs.length ≤ sizeLine := by unfold sizeLine; omega
  have hxs2 : xs.length + 1 ≤ sizeLine := by unfold sizeLine; omega
  have hx63 : (xs.length : Int) + 1 < 2 ^ 63 := by omega
  simp only [adr, adr_append, List.cons_append, List.append_assoc, List.nil_append] at hnd
  simp only [Seg, seg_append, firstK_nil, firstK_cons, firstK_append, lastRef, lastRef_append, firstRef, List.cons_append, List.nil_append, and_true, true_and, and_assoc] at hsg hdc
  have hs : [c, dc, d, r.x, r.dx, l.x, l.dx].Nodup := List.Sublist.nodup ((.cons_cons _ (.cons_cons _ (.cons_cons _ (.cons_cons _ (.cons_cons _ (.cons_cons _ (.cons_cons _ (List.nil_sublist _))))))))) hnd
  simp only [List.nodup_cons, List.mem_cons, List.not_mem_nil, or_false, not_or, List.nodup_nil, not_false_eq_true, and_true] at hs
  obtain ⟨⟨_, _, _, _, _, _⟩, ⟨_, _, _, _, _⟩, ⟨_, _, _, _⟩, ⟨_, _, _⟩, ⟨_, _⟩, _⟩ := hs
  obtain ⟨hr0, hl0⟩ := hsg
  obtain ⟨hr1, tr1, tr2, tr3, tr4, tr5, tr6, hr2⟩ := hr0
  have hr := And.intro hr1 hr2
  obtain ⟨hl1, tl1, tl2, tl3, tl4, tl5, tl6, hl2⟩ := hl0
  have hl := And.intro hl1 hl2
  obtain ⟨qual, pm, ctv, c2, cg, ck, lg, gs, tl, tlo⟩ := C.tell l (by simp)
  have htn := tl.nodup
  simp only [List.nodup_cons, List.mem_cons, List.not_mem_nil, or_false, not_or, List.nodup_nil, not_false_eq_true, and_true] at htn
  obtain ⟨⟨_, _, _, _⟩, ⟨_, _, _⟩, ⟨_, _⟩, _⟩ := htn
  have : c ≠ l.f := fun e => hk98 (((C.own c (by first | (simp; done) | (simp [adr, adr_append]; done))).1.symm.trans (congrArg ow e)).trans (tlo _ (by simp)))
  have : c ≠ c2 := fun e => hk98 (((C.own c (by first | (simp; done) | (simp [adr, adr_append]; done))).1.symm.trans (congrArg ow e)).trans (tlo _ (by simp)))
  have : c ≠ cg := fun e => hk98 (((C.own c (by first | (simp; done) | (simp [adr, adr_append]; done))).1.symm.trans (congrArg ow e)).trans (tlo _ (by simp)))
  have : c ≠ ck := fun e => hk98 (((C.own c (by first | (simp; done) | (simp [adr, adr_append]; done))).1.symm.trans (congrArg ow e)).trans (tlo _ (by simp)))
  have : c ≠ lg := fun e => hk98 (((C.own c (by first | (simp; done) | (simp [adr, adr_append]; done))).1.symm.trans (congrArg ow e)).trans (tlo _ (by simp)))
  have : c ≠ gk := fun e => hgo ((congrArg ow e).symm.trans (C.own c (by first | (simp; done) | (simp [adr, adr_append]; done))).1)
  have : dc ≠ l.f := fun e => hk98 (((C.own dc (by first | (simp; done) | (simp [adr, adr_append]; done))).1.symm.trans (congrArg ow e)).trans (tlo _ (by simp)))
  have : dc ≠ c2 := fun e => hk98 (((C.own dc (by first | (simp; done) | (simp [adr, adr_append]; done))).1.symm.trans (congrArg ow e)).trans (tlo _ (by simp)))
  have : dc ≠ cg := fun e => hk98 (((C.own dc (by first | (simp; done) | (simp [adr, adr_append]; done))).1.symm.trans (congrArg ow e)).trans (tlo _ (by simp)))
  have : dc ≠ ck := fun e => hk98 (((C.own dc (by first | (simp; done) | (simp [adr, adr_append]; done))).1.symm.trans (congrArg ow e)).trans (tlo _ (by simp)))
  have : dc ≠ lg := fun e => hk98 (((C.own dc (by first | (simp; done) | (simp [adr, adr_append]; done))).1.symm.trans (congrArg ow e)).trans (tlo _ (by simp)))
  have : dc ≠ gk := fun e => hgo ((congrArg ow e).symm.trans (C.own dc (by first | (simp; done) | (simp [adr, adr_append]; done))).1)
  have : d ≠ l.f := fun e => hk98 (((C.own d (by first | (simp; done) | (simp [adr, adr_append]; done))).1.symm.trans (congrArg ow e)).trans (tlo _ (by simp)))
  have : d ≠ c2 := fun e => hk98 (((C.own d (by first | (simp; done) | (simp [adr, adr_append]; done))).1.symm.trans (congrArg ow e)).trans (tlo _ (by simp)))
  have : d ≠ cg := fun e => hk98 (((C.own d (by first | (simp; done) | (simp [adr, adr_append]; done))).1.symm.trans (congrArg ow e)).trans (tlo _ (by simp)))
  have : d ≠ ck := fun e => hk98 (((C.own d (by first | (simp; done) | (simp [adr, adr_append]; done))).1.symm.trans (congrArg ow e)).trans (tlo _ (by simp)))
  have : d ≠ lg := fun e => hk98 (((C.own d (by first | (simp; done) | (simp [adr, adr_append]; done))).1.symm.trans (congrArg ow e)).trans (tlo _ (by simp)))
  have : d ≠ gk := fun e => hgo ((congrArg ow e).symm.trans (C.own d (by first | (simp; done) | (simp [adr, adr_append]; done))).1)
  have : r.x ≠ l.f := fun e => hk98 (((C.own r.x (by first | (simp; done) | (simp [adr, adr_append]; done))).1.symm.trans (congrArg ow e)).trans (tlo _ (by simp)))
  have : r.x ≠ c2 := fun e => hk98 (((C.own r.x (by first | (simp; done) | (simp [adr, adr_append]; done))).1.symm.trans (congrArg ow e)).trans (tlo _ (by simp)))
  have : r.x ≠ cg := fun e => hk98 (((C.own r.x (by first | (simp; done) | (simp [adr, adr_append]; done))).1.symm.trans (congrArg ow e)).trans (tlo _ (by simp)))
  have : r.x ≠ ck := fun e => hk98 (((C.own r.x (by first | (simp; done) | (simp [adr, adr_append]; done))).1.symm.trans (congrArg ow e)).trans (tlo _ (by simp)))
  have : r.x ≠ lg := fun e => hk98 (((C.own r.x (by first | (simp; done) | (simp [adr, adr_append]; done))).1.symm.trans (congrArg ow e)).trans (tlo _ (by simp)))
  have : r.x ≠ gk := fun e => hgo ((congrArg ow e).symm.trans (C.own r.x (by first | (simp; done) | (simp [adr, adr_append]; done))).1)
  have : r.dx ≠ l.f := fun e => hk98 (((C.own r.dx (by first | (simp; done) | (simp [adr, adr_append]; done))).1.symm.trans (congrArg ow e)).trans (tlo _ (by simp)))
  have : r.dx ≠ c2 := fun e => hk98 (((C.own r.dx (by first | (simp; done) | (simp [adr, adr_append]; done))).1.symm.trans (congrArg ow e)).trans (tlo _ (by simp)))
  have : r.dx ≠ cg := fun e => hk98 (((C.own r.dx (by first | (simp; done) | (simp [adr, adr_append]; done))).1.symm.trans (congrArg ow e)).trans (tlo _ (by simp)))
  have : r.dx ≠ ck := fun e => hk98 (((C.own r.dx (by first | (simp; done) | (simp [adr, adr_append]; done))).1.symm.trans (congrArg ow e)).trans (tlo _ (by simp)))
  have : r.dx ≠ lg := fun e => hk98 (((C.own r.dx (by first | (simp; done) | (simp [adr, adr_append]; done))).1.symm.trans (congrArg ow e)).trans (tlo _ (by simp)))
  have : r.dx ≠ gk := fun e => hgo ((congrArg ow e).symm.trans (C.own r.dx (by first | (simp; done) | (simp [adr, adr_append]; done))).1)
  have : l.x ≠ l.f := fun e => hk98 (((C.own l.x (by first | (simp; done) | (simp [adr, adr_append]; done))).1.symm.trans (congrArg ow e)).trans (tlo _ (by simp)))
  have : l.x ≠ c2 := fun e => hk98 (((C.own l.x (by first | (simp; done) | (simp [adr, adr_append]; done))).1.symm.trans (congrArg ow e)).trans (tlo _ (by simp)))
  have : l.x ≠ cg := fun e => hk98 (((C.own l.x (by first | (simp; done) | (simp [adr, adr_append]; done))).1.symm.trans (congrArg ow e)).trans (tlo _ (by simp)))
  have : l.x ≠ ck := fun e => hk98 (((C.own l.x (by first | (simp; done) | (simp [adr, adr_append]; done))).1.symm.trans (congrArg ow e)).trans (tlo _ (by simp)))
  have : l.x ≠ lg := fun e => hk98 (((C.own l.x (by first | (simp; done) | (simp [adr, adr_append]; done))).1.symm.trans (congrArg ow e)).trans (tlo _ (by simp)))
  have : l.x ≠ gk := fun e => hgo ((congrArg ow e).symm.trans (C.own l.x (by first | (simp; done) | (simp [adr, adr_append]; done))).1)
  have : l.dx ≠ l.f := fun e => hk98 (((C.own l.dx (by first | (simp; done) | (simp [adr, adr_append]; done))).1.symm.trans (congrArg ow e)).trans (tlo _ (by simp)))
  have : l.dx ≠ c2 := fun e => hk98 (((C.own l.dx (by first | (simp; done) | (simp [adr, adr_append]; done))).1.symm.trans (congrArg ow e)).trans (tlo _ (by simp)))
  have : l.dx ≠ cg := fun e => hk98 (((C.own l.dx (by first | (simp; done) | (simp [adr, adr_append]; done))).1.symm.trans (congrArg ow e)).trans (tlo _ (by simp)))
  have : l.dx ≠ ck := fun e => hk98 (((C.own l.dx (by first | (simp; done) | (simp [adr, adr_append]; done))).1.symm.trans (congrArg ow e)).trans (tlo _ (by simp)))
  have : l.dx ≠ lg := fun e => hk98 (((C.own l.dx (by first | (simp; done) | (simp [adr, adr_append]; done))).1.symm.trans (congrArg ow e)).trans (tlo _ (by simp)))
  have : l.dx ≠ gk := fun e => hgo ((congrArg ow e).symm.trans (C.own l.dx (by first | (simp; done) | (simp [adr, adr_append]; done))).1)
  have : gk ≠ l.f := fun e => hgk ((congrArg ow e).trans (tlo _ (by simp)))
  have : gk ≠ c2 := fun e => hgk ((congrArg ow e).trans (tlo _ (by simp)))
  have : gk ≠ cg := fun e => hgk ((congrArg ow e).trans (tlo _ (by simp)))
  have : gk ≠ ck := fun e => hgk ((congrArg ow e).trans (tlo _ (by simp)))
  have : gk ≠ lg := fun e => hgk ((congrArg ow e).trans (tlo _ (by simp)))
  refine add_full2 B F X T hk hd hu (by simp only [List.nodup_cons, List.mem_cons, List.not_mem_nil, or_false, not_or, List.nodup_nil, not_false_eq_true, and_true]; (repeat' apply And.intro) <;> first | assumption | exact Ne.symm (by assumption)) hxs hkx.1 hnk (by rw [hnx]; rfl) hxs1 C.sysd hx63 tl hsz (C.keys l (by simp)).1 (hxk l (by simp)) (C.keys r (by simp)).1.handed (C.keys l (by simp)).1.handed rfl (by rw [hxl]; exact hlen) hxs2 (news_cons (C.new F (by first | (simp; done) | (simp [adr, adr_append]; done)) C.inst) (news_cons (C.new F (by first | (simp; done) | (simp [adr, adr_append]; done)) hdc) (news_cons (C.new F (by first | (simp; done) | (simp [adr, adr_append]; done)) hdd) (news_cons (C.new F (by first | (simp; done) | (simp [adr, adr_append]; done)) hr.1) (news_cons (C.new F (by first | (simp; done) | (simp [adr, adr_append]; done)) hr.2) (news_cons (C.new F (by first | (simp; done) | (simp [adr, adr_append]; done)) hl.1) (news_cons (C.new F (by first | (simp; done) | (simp [adr, adr_append]; done)) hl.2) (news_cons ⟨hgl, hgn⟩ news_nil)))))))) (fun h' tk' xa dxa t tx1 tx2 tx3 tx4 tx5 tx6 F' N' K' Z' hxn hxd => ?_)
  have hT : ∀ b ∈ [c, dc, d, r.x, r.dx, l.x, l.dx, gk], b = gk ∨ b ∈ c :: dc :: d :: adr [r, l] := by simp [adr, adr_append]
  have hT2 : ∀ b ∈ [c, dc, d, r.x, r.dx, l.x, l.dx, gk], b ∈ gk :: c :: dc :: d :: adr [r, l] := by simp [adr, adr_append]
  have nx : s.heap.get? xa = none := (Z' _ (.tail _ (.tail _ (.tail _ (.tail _ (.tail _ (.tail _ (.tail _ (.tail _ (.tail _ (.head _))))))))))).resolve_left fun hm => (hxn _ hm).1 rfl
  have ndx : s.heap.get? dxa = none := (Z' _ (.tail _ (.tail _ (.tail _ (.tail _ (.tail _ (.tail _ (.tail _ (.tail _ (.tail _ (.tail _ (.head _)))))))))))).resolve_left fun hm => (hxn _ hm).2 rfl
  have htb : ∀ b ∈ [c, dc, d, r.x, r.dx, l.x, l.dx, gk], t ≠ b := by
    simp only [List.forall_mem_cons]
    exact ⟨ne_of_cls N' (.head _) (.tail _ (.tail _ (.tail _ (.tail _ (.head _))))) (by dsimp only [tupOf, nodeD, cacheD, dictK, dictOf, instObj, W.listOf]; decide), ne_of_cls N' (.head _) (.tail _ (.tail _ (.tail _ (.tail _ (.tail _ (.head _)))))) (by dsimp only [tupOf, nodeD, cacheD, dictK, dictOf, instObj, W.listOf]; decide), ne_of_cls N' (.head _) (.tail _ (.tail _ (.tail _ (.tail _ (.tail _ (.tail _ (.head _))))))) (by dsimp only [tupOf, nodeD, cacheD, dictK, dictOf, instObj, W.listOf]; decide), ne_of_cls N' (.head _) (.tail _ (.tail _ (.tail _ (.tail _ (.tail _ (.tail _ (.tail _ (.head _)))))))) (by dsimp only [tupOf, nodeD, cacheD, dictK, dictOf, instObj, W.listOf]; decide), ne_of_cls N' (.head _) (.tail _ (.tail _ (.tail _ (.tail _ (.tail _ (.tail _ (.tail _ (.tail _ (.head _))))))))) (by dsimp only [tupOf, nodeD, cacheD, dictK, dictOf, instObj, W.listOf]; decide), ne_of_cls N' (.head _) (.tail _ (.tail _ (.head _))) (by dsimp only [tupOf, nodeD, cacheD, dictK, dictOf, instObj, W.listOf]; decide), ne_of_cls N' (.head _) (.tail _ (.tail _ (.tail _ (.head _)))) (by dsimp only [tupOf, nodeD, cacheD, dictK, dictOf, instObj, W.listOf]; decide), ne_of_cls N' (.head _) (.tail _ (.head _)) (by dsimp only [tupOf, nodeD, cacheD, dictK, dictOf, instObj, W.listOf]; decide), nofun⟩
  have nt : s.heap.get? t = none := (Z' _ (.head _)).resolve_left fun hm => htb _ hm rfl
  have t1 : t ≠ xa := ne_of_cls N' (.head _) (.tail _ (.tail _ (.tail _ (.tail _ (.tail _ (.tail _ (.tail _ (.tail _ (.tail _ (.head _)))))))))) (by dsimp only [tupOf, nodeD, cacheD, dictK, dictOf, instObj, W.listOf]; decide)
  have t2 : t ≠ dxa := ne_of_cls N' (.head _) (.tail _ (.tail _ (.tail _ (.tail _ (.tail _ (.tail _ (.tail _ (.tail _ (.tail _ (.tail _ (.head _))))))))))) (by dsimp only [tupOf, nodeD, cacheD, dictK, dictOf, instObj, W.listOf]; decide)
  let ow' : Addr → Nat := fun b => if b = xa ∨ b = dxa then k else if b = t then 98 else ow b
  have he : ∀ a o, s.heap.get? a = some o → ow' a = ow a := fun a o g => by
    have n1 : a ≠ xa := fun e => by rw [e, nx] at g; cases g
    have n2 : a ≠ dxa := fun e => by rw [e, ndx] at g; cases g
    have n3 : a ≠ t := fun e => by rw [e, nt] at g; cases g
    show (if a = xa ∨ a = dxa then k else if a = t then 98 else ow a) = ow a
    rw [if_neg (by rintro (e | e); exact n1 e; exact n2 e), if_neg n3]
  have ox : ow' xa = k := if_pos (.inl rfl)
  have odx : ow' dxa = k := if_pos (.inr rfl)
  have ot : ow' t = 98 := by
    show (if t = xa ∨ t = dxa then k else if t = t then 98 else ow t) = 98
    rw [if_neg (by rintro (e | e); exact t1 e; exact t2 e), if_pos rfl]
  obtain ⟨m2, m3, m4, m5⟩ := ents_full (kept := [r]) (l := l) (xa := xa) (dxa := dxa) (f := f) (i := i) (vt := vt) hxs hxo hxl hxk hkx hnx C.nodupK hno
  have sg : Seg w.params h' .none ((⟨xa, dxa, q, key, i, vt, f⟩ : Rec) :: [r]) .none := by
    simp only [Seg, seg_append, firstK_nil, firstK_cons, firstK_append, lastRef, lastRef_append, and_true, and_assoc, List.cons_append, List.nil_append]
    exact ⟨⟨(N' _ (.tail _ (.tail _ (.tail _ (.tail _ (.tail _ (.tail _ (.tail _ (.tail _ (.tail _ (.head _))))))))))).1, _, _, _, _, _, _, (N' _ (.tail _ (.tail _ (.tail _ (.tail _ (.tail _ (.tail _ (.tail _ (.tail _ (.tail _ (.tail _ (.head _)))))))))))).1⟩, ⟨(N' _ (.tail _ (.tail _ (.tail _ (.tail _ (.tail _ (.tail _ (.tail _ (.head _))))))))).1, _, _, _, _, _, _, (N' _ (.tail _ (.tail _ (.tail _ (.tail _ (.tail _ (.tail _ (.tail _ (.tail _ (.head _)))))))))).1⟩⟩
  exact ret h' tk' ow' xa dxa t F' he (C.added (kept := [r]) (rest := [l]) hk98 K' hT hgk (by simp) he (N' _ (.tail _ (.tail _ (.tail _ (.tail _ (.tail _ (.tail _ (.tail _ (.tail _ (.tail _ (.head _))))))))))) (N' _ (.tail _ (.tail _ (.tail _ (.tail _ (.tail _ (.tail _ (.tail _ (.tail _ (.tail _ (.tail _ (.head _)))))))))))).2 ox odx nx ndx hxd hkx hno htl (N' _ (.tail _ (.tail _ (.tail _ (.tail _ (.head _)))))).1 (by simp only [firstRef, lastRef, lastRef_append, List.cons_append, List.nil_append]; exact ⟨_, _, _, _, _, _, _, (N' _ (.tail _ (.tail _ (.tail _ (.tail _ (.tail _ (.head _))))))).1⟩) (N' _ (.tail _ (.tail _ (.tail _ (.tail _ (.tail _ (.tail _ (.head _)))))))).1 m2 m3 m4 m5 sg hsm) (K'.weaken hT2) (N' _ (.tail _ (.head _))).1 (N' _ (.head _)).1 nt (N' _ (.head _)).2.1 (N' _ (.head _)).2.2 ot

set_option maxHeartbeats 2000000 in
theorem adds_full {dp un : Nat} {gd : Option (List Code)} {cn : Str} {cs : Scope} {a : Addr} {ccd : Value} {cl : List (Str × Addr)} {outer : List Env} {A₀ : Around} {base h₀ : Heap} {L : Addr} {m : Str → Option Value} {s : Shared} {Q E : Value → Shared → Prop}
    {ow : Addr → Nat} {k : Nat} {M : Int} {gk c dc d : Addr} {q : Key} {key : Value} {i : Int} {vt : Tok} {f : Addr} {r z l : Rec} {M9 : List Rec} {its : Array Value} {ng : Nat}
    (B : Below A₀ base outer h₀) (F : Fr h₀ L s.heap m) (X : (hd.heap_39 w.params).In h₀) (T : Top p loose mean mg mb h₀) (hk : cs.kind = .function) (hd : dp + 60 < recursionLimit) (hu : un + 700 < cLine) (hk98 : k ≠ 98) (hgk : ow gk ≠ 98)
    (C : CacheAt prog w s.heap ow k h₀ L M gk c dc d (r :: (M9 ++ [z]) ++ [l])) (hkx : IsKeyW prog w s.heap ow q key) (hno : q ∉ ((r :: (M9 ++ [z]) ++ [l]) : List Rec).map (·.key))
    (htl : ∃ qual pm ctv c' cg ck lg gs, TellerAt s.heap f k gk qual pm ctv c' cg ck lg gs ∧ ∀ a ∈ [f, c', cg, ck, lg], ow a = 98)
    (hlen : (((r :: (M9 ++ [z]) ++ [l]) : List Rec).length : Int) = M) (hsz : its.size ≤ sizeLine) (hgl : s.heap.get? gk = some (listOf its ng)) (hgn : gk ≠ L ∧ h₀.get? gk = none) (hgo : ow gk ≠ k) (hsm : ((r :: (M9 ++ [z])) : List Rec).length + 1 ≤ 100)
    (ret : ∀ h' tk' ow' xa dxa t, Fr h₀ L h' m → (∀ a o, s.heap.get? a = some o → ow' a = ow a) → CacheAt prog w h' ow' k h₀ L M gk c dc d (⟨xa, dxa, q, key, i, vt, f⟩ :: (r :: (M9 ++ [z]))) → Keep s.heap h' (gk :: c :: dc :: d :: adr (r :: (M9 ++ [z]) ++ [l])) → h'.get? gk = some (listOf (its.push (.ref t)) (ng + 1)) → h'.get? t = some (tupOf [l.kv, .int l.i l.vt]) → s.heap.get? t = none → t ≠ L → h₀.get? t = none → ow' t = 98 → Q .none { s with heap := h', toks := tk' }) :
    wpAny (model prog w) (ktrTop dp un gd cn cs L a ccd cl outer) (call (.ref 101) [.ref c, key, .int i vt, .ref f]) Q E s := by
  have hnd := C.nodup
  have hsg := C.seg
  obtain ⟨tc1, tc2, tc3, tc4, tc5, tm, ta, hdc⟩ := C.dict
  obtain ⟨xs, n, hdd, hxs, hxo, hxl, hxk⟩ := C.ents
  have hnx : look xs q = none := look_none_iff.mpr fun hq => hno ((C.keysOf_iff hxl hxk q).mp hq)
  have hnk : q ∉ keysOf xs := look_none_iff.mp hnx
  have hsm2 := C.small
  have hxs1 : xs.length ≤ sizeLine := by unfold sizeLine; omega
  have hxs2 : xs.length + 1 ≤ sizeLine := by unfold sizeLine; omega
  have hx63 : (xs.length : Int) + 1 < 2 ^ 63 := by omega
  simp only [adr, adr_append, List.cons_append, List.append_assoc, List.nil_append] at hnd
  simp only [Seg, seg_append, firstK_nil, firstK_cons, firstK_append, lastRef, lastRef_append, firstRef, List.cons_append, List.nil_append, and_true, true_and, and_assoc] at hsg hdc
  have hs : [c, dc, d, r.x, r.dx, z.x, z.dx, l.x, l.dx].Nodup := List.Sublist.nodup ((.cons_cons _ (.cons_cons _ (.cons_cons _ (.cons_cons _ (.cons_cons _ (.trans (.refl _) (List.sublist_append_right (adr M9) _)))))))) hnd
  simp only [List.nodup_cons, List.mem_cons, List.not_mem_nil, or_false, not_or, List.nodup_nil, not_false_eq_true, and_true] at hs
  obtain ⟨⟨_, _, _, _, _, _, _, _⟩, ⟨_, _, _, _, _, _, _⟩, ⟨_, _, _, _, _, _⟩, ⟨_, _, _, _, _⟩, ⟨_, _, _, _⟩, ⟨_, _, _⟩, ⟨_, _⟩, _⟩ := hs
  obtain ⟨hr0, hsM, hz0, hl0⟩ := hsg
  obtain ⟨hr1, tr1, tr2, tr3, tr4, tr5, tr6, hr2⟩ := hr0
  have hr := And.intro hr1 hr2
  obtain ⟨hz1, tz1, tz2, tz3, tz4, tz5, tz6, hz2⟩ := hz0
  have hz := And.intro hz1 hz2
  obtain ⟨hl1, tl1, tl2, tl3, tl4, tl5, tl6, hl2⟩ := hl0
  have hl := And.intro hl1 hl2
  obtain ⟨qual, pm, ctv, c2, cg, ck, lg, gs, tl, tlo⟩ := C.tell l (by simp)
  have htn := tl.nodup
  simp only [List.nodup_cons, List.mem_cons, List.not_mem_nil, or_false, not_or, List.nodup_nil, not_false_eq_true, and_true] at htn
  obtain ⟨⟨_, _, _, _⟩, ⟨_, _, _⟩, ⟨_, _⟩, _⟩ := htn
  have : c ≠ l.f := fun e => hk98 (((C.own c (by first | (simp; done) | (simp [adr, adr_append]; done))).1.symm.trans (congrArg ow e)).trans (tlo _ (by simp)))
  have : c ≠ c2 := fun e => hk98 (((C.own c (by first | (simp; done) | (simp [adr, adr_append]; done))).1.symm.trans (congrArg ow e)).trans (tlo _ (by simp)))
  have : c ≠ cg := fun e => hk98 (((C.own c (by first | (simp; done) | (simp [adr, adr_append]; done))).1.symm.trans (congrArg ow e)).trans (tlo _ (by simp)))
  have : c ≠ ck := fun e => hk98 (((C.own c (by first | (simp; done) | (simp [adr, adr_append]; done))).1.symm.trans (congrArg ow e)).trans (tlo _ (by simp)))
  have : c ≠ lg := fun e => hk98 (((C.own c (by first | (simp; done) | (simp [adr, adr_append]; done))).1.symm.trans (congrArg ow e)).trans (tlo _ (by simp)))
  have : c ≠ gk := fun e => hgo ((congrArg ow e).symm.trans (C.own c (by first | (simp; done) | (simp [adr, adr_append]; done))).1)
  have : dc ≠ l.f := fun e => hk98 (((C.own dc (by first | (simp; done) | (simp [adr, adr_append]; done))).1.symm.trans (congrArg ow e)).trans (tlo _ (by simp)))
  have : dc ≠ c2 := fun e => hk98 (((C.own dc (by first | (simp; done) | (simp [adr, adr_append]; done))).1.symm.trans (congrArg ow e)).trans (tlo _ (by simp)))
  have : dc ≠ cg := fun e => hk98 (((C.own dc (by first | (simp; done) | (simp [adr, adr_append]; done))).1.symm.trans (congrArg ow e)).trans (tlo _ (by simp)))
  have : dc ≠ ck := fun e => hk98 (((C.own dc (by first | (simp; done) | (simp [adr, adr_append]; done))).1.symm.trans (congrArg ow e)).trans (tlo _ (by simp)))
  have : dc ≠ lg := fun e => hk98 (((C.own dc (by first | (simp; done) | (simp [adr, adr_append]; done))).1.symm.trans (congrArg ow e)).trans (tlo _ (by simp)))
  have : dc ≠ gk := fun e => hgo ((congrArg ow e).symm.trans (C.own dc (by first | (simp; done) | (simp [adr, adr_append]; done))).1)
  have : d ≠ l.f := fun e => hk98 (((C.own d (by first | (simp; done) | (simp [adr, adr_append]; done))).1.symm.trans (congrArg ow e)).trans (tlo _ (by simp)))
  have : d ≠ c2 := fun e => hk98 (((C.own d (by first | (simp; done) | (simp [adr, adr_append]; done))).1.symm.trans (congrArg ow e)).trans (tlo _ (by simp)))
  have : d ≠ cg := fun e => hk98 (((C.own d (by first | (simp; done) | (simp [adr, adr_append]; done))).1.symm.trans (congrArg ow e)).trans (tlo _ (by simp)))
  have : d ≠ ck := fun e => hk98 (((C.own d (by first | (simp; done) | (simp [adr, adr_append]; done))).1.symm.trans (congrArg ow e)).trans (tlo _ (by simp)))
  have : d ≠ lg := fun e => hk98 (((C.own d (by first | (simp; done) | (simp [adr, adr_append]; done))).1.symm.trans (congrArg ow e)).trans (tlo _ (by simp)))
  have : d ≠ gk := fun e => hgo ((congrArg ow e).symm.trans (C.own d (by first | (simp; done) | (simp [adr, adr_append]; done))).1)
  have : r.x ≠ l.f := fun e => hk98 (((C.own r.x (by first | (simp; done) | (simp [adr, adr_append]; done))).1.symm.trans (congrArg ow e)).trans (tlo _ (by simp)))
  have : r.x ≠ c2 := fun e => hk98 (((C.own r.x (by first | (simp; done) | (simp [adr, adr_append]; done))).1.symm.trans (congrArg ow e)).trans (tlo _ (by simp)))
  have : r.x ≠ cg := fun e => hk98 (((C.own r.x (by first | (simp; done) | (simp [adr, adr_append]; done))).1.symm.trans (congrArg ow e)).trans (tlo _ (by simp)))
  have : r.x ≠ ck := fun e => hk98 (((C.own r.x (by first | (simp; done) | (simp [adr, adr_append]; done))).1.symm.trans (congrArg ow e)).trans (tlo _ (by simp)))
  have : r.x ≠ lg := fun e => hk98 (((C.own r.x (by first | (simp; done) | (simp [adr, adr_append]; done))).1.symm.trans (congrArg ow e)).trans (tlo _ (by simp)))
  have : r.x ≠ gk := fun e => hgo ((congrArg ow e).symm.trans (C.own r.x (by first | (simp; done) | (simp [adr, adr_append]; done))).1)
  have : r.dx ≠ l.f := fun e => hk98 (((C.own r.dx (by first | (simp; done) | (simp [adr, adr_append]; done))).1.symm.trans (congrArg ow e)).trans (tlo _ (by simp)))
  have : r.dx ≠ c2 := fun e => hk98 (((C.own r.dx (by first | (simp; done) | (simp [adr, adr_append]; done))).1.symm.trans (congrArg ow e)).trans (tlo _ (by simp)))
  have : r.dx ≠ cg := fun e => hk98 (((C.own r.dx (by first | (simp; done) | (simp [adr, adr_append]; done))).1.symm.trans (congrArg ow e)).trans (tlo _ (by simp)))
  have : r.dx ≠ ck := fun e => hk98 (((C.own r.dx (by first | (simp; done) | (simp [adr, adr_append]; done))).1.symm.trans (congrArg ow e)).trans (tlo _ (by simp)))
  have : r.dx ≠ lg := fun e => hk98 (((C.own r.dx (by first | (simp; done) | (simp [adr, adr_append]; done))).1.symm.trans (congrArg ow e)).trans (tlo _ (by simp)))
  have : r.dx ≠ gk := fun e => hgo ((congrArg ow e).symm.trans (C.own r.dx (by first | (simp; done) | (simp [adr, adr_append]; done))).1)
  have : z.x ≠ l.f := fun e => hk98 (((C.own z.x (by first | (simp; done) | (simp [adr, adr_append]; done))).1.symm.trans (congrArg ow e)).trans (tlo _ (by simp)))
  have : z.x ≠ c2 := fun e => hk98 (((C.own z.x (by first | (simp; done) | (simp [adr, adr_append]; done))).1.symm.trans (congrArg ow e)).trans (tlo _ (by simp)))
  have : z.x ≠ cg := fun e => hk98 (((C.own z.x (by first | (simp; done) | (simp [adr, adr_append]; done))).1.symm.trans (congrArg ow e)).trans (tlo _ (by simp)))
  have : z.x ≠ ck := fun e => hk98 (((C.own z.x (by first | (simp; done) | (simp [adr, adr_append]; done))).1.symm.trans (congrArg ow e)).trans (tlo _ (by simp)))
  have : z.x ≠ lg := fun e => hk98 (((C.own z.x (by first | (simp; done) | (simp [adr, adr_append]; done))).1.symm.trans (congrArg ow e)).trans (tlo _ (by simp)))
  have : z.x ≠ gk := fun e => hgo ((congrArg ow e).symm.trans (C.own z.x (by first | (simp; done) | (simp [adr, adr_append]; done))).1)
  have : z.dx ≠ l.f := fun e => hk98 (((C.own z.dx (by first | (simp; done) | (simp [adr, adr_append]; done))).1.symm.trans (congrArg ow e)).trans (tlo _ (by simp)))
  have : z.dx ≠ c2 := fun e => hk98 (((C.own z.dx (by first | (simp; done) | (simp [adr, adr_append]; done))).1.symm.trans (congrArg ow e)).trans (tlo _ (by simp)))
  have : z.dx ≠ cg := fun e => hk98 (((C.own z.dx (by first | (simp; done) | (simp [adr, adr_append]; done))).1.symm.trans (congrArg ow e)).trans (tlo _ (by simp)))
  have : z.dx ≠ ck := fun e => hk98 (((C.own z.dx (by first | (simp; done) | (simp [adr, adr_append]; done))).1.symm.trans (congrArg ow e)).trans (tlo _ (by simp)))
  have : z.dx ≠ lg := fun e => hk98 (((C.own z.dx (by first | (simp; done) | (simp [adr, adr_append]; done))).1.symm.trans (congrArg ow e)).trans (tlo _ (by simp)))
  have : z.dx ≠ gk := fun e => hgo ((congrArg ow e).symm.trans (C.own z.dx (by first | (simp; done) | (simp [adr, adr_append]; done))).1)
  have : l.x ≠ l.f := fun e => hk98 (((C.own l.x (by first | (simp; done) | (simp [adr, adr_append]; done))).1.symm.trans (congrArg ow e)).trans (tlo _ (by simp)))
  have : l.x ≠ c2 := fun e => hk98 (((C.own l.x (by first | (simp; done) | (simp [adr, adr_append]; done))).1.symm.trans (congrArg ow e)).trans (tlo _ (by simp)))
  have : l.x ≠ cg := fun e => hk98 (((C.own l.x (by first | (simp; done) | (simp [adr, adr_append]; done))).1.symm.trans (congrArg ow e)).trans (tlo _ (by simp)))
  have : l.x ≠ ck := fun e => hk98 (((C.own l.x (by first | (simp; done) | (simp [adr, adr_append]; done))).1.symm.trans (congrArg ow e)).trans (tlo _ (by simp)))
  have : l.x ≠ lg := fun e => hk98 (((C.own l.x (by first | (simp; done) | (simp [adr, adr_append]; done))).1.symm.trans (congrArg ow e)).trans (tlo _ (by simp)))
  have : l.x ≠ gk := fun e => hgo ((congrArg ow e).symm.trans (C.own l.x (by first | (simp; done) | (simp [adr, adr_append]; done))).1)
  have : l.dx ≠ l.f := fun e => hk98 (((C.own l.dx (by first | (simp; done) | (simp [adr, adr_append]; done))).1.symm.trans (congrArg ow e)).trans (tlo _ (by simp)))
  have : l.dx ≠ c2 := fun e => hk98 (((C.own l.dx (by first | (simp; done) | (simp [adr, adr_append]; done))).1.symm.trans (congrArg ow e)).trans (tlo _ (by simp)))
  have : l.dx ≠ cg := fun e => hk98 (((C.own l.dx (by first | (simp; done) | (simp [adr, adr_append]; done))).1.symm.trans (congrArg ow e)).trans (tlo _ (by simp)))
  have : l.dx ≠ ck := fun e => hk98 (((C.own l.dx (by first | (simp; done) | (simp [adr, adr_append]; done))).1.symm.trans (congrArg ow e)).trans (tlo _ (by simp)))
  have : l.dx ≠ lg := fun e => hk98 (((C.own l.dx (by first | (simp; done) | (simp [adr, adr_append]; done))).1.symm.trans (congrArg ow e)).trans (tlo _ (by simp)))
  have : l.dx ≠ gk := fun e => hgo ((congrArg ow e).symm.trans (C.own l.dx (by first | (simp; done) | (simp [adr, adr_append]; done))).1)
  have : gk ≠ l.f := fun e => hgk ((congrArg ow e).trans (tlo _ (by simp)))
  have : gk ≠ c2 := fun e => hgk ((congrArg ow e).trans (tlo _ (by simp)))
  have : gk ≠ cg := fun e => hgk ((congrArg ow e).trans (tlo _ (by simp)))
  have : gk ≠ ck := fun e => hgk ((congrArg ow e).trans (tlo _ (by simp)))
  have : gk ≠ lg := fun e => hgk ((congrArg ow e).trans (tlo _ (by simp)))
  refine add_full B F X T hk hd hu (by simp only [List.nodup_cons, List.mem_cons, List.not_mem_nil, or_false, not_or, List.nodup_nil, not_false_eq_true, and_true]; (repeat' apply And.intro) <;> first | assumption | exact Ne.symm (by assumption)) hxs hkx.1 hnk (by rw [hnx]; rfl) hxs1 C.sysd hx63 tl hsz (C.keys l (by simp)).1 (hxk l (by simp)) (C.keys r (by simp)).1.handed (C.keys l (by simp)).1.handed rfl (by rw [hxl]; exact hlen) hxs2 (news_cons (C.new F (by first | (simp; done) | (simp [adr, adr_append]; done)) C.inst) (news_cons (C.new F (by first | (simp; done) | (simp [adr, adr_append]; done)) hdc) (news_cons (C.new F (by first | (simp; done) | (simp [adr, adr_append]; done)) hdd) (news_cons (C.new F (by first | (simp; done) | (simp [adr, adr_append]; done)) hr.1) (news_cons (C.new F (by first | (simp; done) | (simp [adr, adr_append]; done)) hr.2) (news_cons (C.new F (by first | (simp; done) | (simp [adr, adr_append]; done)) hl.1) (news_cons (C.new F (by first | (simp; done) | (simp [adr, adr_append]; done)) hl.2) (news_cons (C.new F (by first | (simp; done) | (simp [adr, adr_append]; done)) hz.1) (news_cons (C.new F (by first | (simp; done) | (simp [adr, adr_append]; done)) hz.2) (news_cons ⟨hgl, hgn⟩ news_nil)))))))))) (fun h' tk' xa dxa t tx1 tx2 tx3 tx4 tx5 tx6 F' N' K' Z' hxn hxd => ?_)
  have hT : ∀ b ∈ [c, dc, d, r.x, r.dx, l.x, l.dx, z.x, z.dx, gk], b = gk ∨ b ∈ c :: dc :: d :: adr (r :: (M9 ++ [z]) ++ [l]) := by simp [adr, adr_append]
  have hT2 : ∀ b ∈ [c, dc, d, r.x, r.dx, l.x, l.dx, z.x, z.dx, gk], b ∈ gk :: c :: dc :: d :: adr (r :: (M9 ++ [z]) ++ [l]) := by simp [adr, adr_append]
  have nx : s.heap.get? xa = none := (Z' _ (.tail _ (.tail _ (.tail _ (.tail _ (.tail _ (.tail _ (.tail _ (.tail _ (.tail _ (.head _))))))))))).resolve_left fun hm => (hxn _ hm).1 rfl
  have ndx : s.heap.get? dxa = none := (Z' _ (.tail _ (.tail _ (.tail _ (.tail _ (.tail _ (.tail _ (.tail _ (.tail _ (.tail _ (.tail _ (.head _)))))))))))).resolve_left fun hm => (hxn _ hm).2 rfl
  have htb : ∀ b ∈ [c, dc, d, r.x, r.dx, l.x, l.dx, z.x, z.dx, gk], t ≠ b := by
    simp only [List.forall_mem_cons]
    exact ⟨ne_of_cls N' (.head _) (.tail _ (.tail _ (.tail _ (.tail _ (.head _))))) (by dsimp only [tupOf, nodeD, cacheD, dictK, dictOf, instObj, W.listOf]; decide), ne_of_cls N' (.head _) (.tail _ (.tail _ (.tail _ (.tail _ (.tail _ (.head _)))))) (by dsimp only [tupOf, nodeD, cacheD, dictK, dictOf, instObj, W.listOf]; decide), ne_of_cls N' (.head _) (.tail _ (.tail _ (.tail _ (.tail _ (.tail _ (.tail _ (.head _))))))) (by dsimp only [tupOf, nodeD, cacheD, dictK, dictOf, instObj, W.listOf]; decide), ne_of_cls N' (.head _) (.tail _ (.tail _ (.tail _ (.tail _ (.tail _ (.tail _ (.tail _ (.tail _ (.tail _ (.tail _ (.tail _ (.head _)))))))))))) (by dsimp only [tupOf, nodeD, cacheD, dictK, dictOf, instObj, W.listOf]; decide), ne_of_cls N' (.head _) (.tail _ (.tail _ (.tail _ (.tail _ (.tail _ (.tail _ (.tail _ (.tail _ (.tail _ (.tail _ (.tail _ (.tail _ (.head _))))))))))))) (by dsimp only [tupOf, nodeD, cacheD, dictK, dictOf, instObj, W.listOf]; decide), ne_of_cls N' (.head _) (.tail _ (.tail _ (.head _))) (by dsimp only [tupOf, nodeD, cacheD, dictK, dictOf, instObj, W.listOf]; decide), ne_of_cls N' (.head _) (.tail _ (.tail _ (.tail _ (.head _)))) (by dsimp only [tupOf, nodeD, cacheD, dictK, dictOf, instObj, W.listOf]; decide), ne_of_cls N' (.head _) (.tail _ (.tail _ (.tail _ (.tail _ (.tail _ (.tail _ (.tail _ (.head _)))))))) (by dsimp only [tupOf, nodeD, cacheD, dictK, dictOf, instObj, W.listOf]; decide), ne_of_cls N' (.head _) (.tail _ (.tail _ (.tail _ (.tail _ (.tail _ (.tail _ (.tail _ (.tail _ (.head _))))))))) (by dsimp only [tupOf, nodeD, cacheD, dictK, dictOf, instObj, W.listOf]; decide), ne_of_cls N' (.head _) (.tail _ (.head _)) (by dsimp only [tupOf, nodeD, cacheD, dictK, dictOf, instObj, W.listOf]; decide), nofun⟩
  have nt : s.heap.get? t = none := (Z' _ (.head _)).resolve_left fun hm => htb _ hm rfl
  have t1 : t ≠ xa := ne_of_cls N' (.head _) (.tail _ (.tail _ (.tail _ (.tail _ (.tail _ (.tail _ (.tail _ (.tail _ (.tail _ (.head _)))))))))) (by dsimp only [tupOf, nodeD, cacheD, dictK, dictOf, instObj, W.listOf]; decide)
  have t2 : t ≠ dxa := ne_of_cls N' (.head _) (.tail _ (.tail _ (.tail _ (.tail _ (.tail _ (.tail _ (.tail _ (.tail _ (.tail _ (.tail _ (.head _))))))))))) (by dsimp only [tupOf, nodeD, cacheD, dictK, dictOf, instObj, W.listOf]; decide)
  let ow' : Addr → Nat := fun b => if b = xa ∨ b = dxa then k else if b = t then 98 else ow b
  have he : ∀ a o, s.heap.get? a = some o → ow' a = ow a := fun a o g => by
    have n1 : a ≠ xa := fun e => by rw [e, nx] at g; cases g
    have n2 : a ≠ dxa := fun e => by rw [e, ndx] at g; cases g
    have n3 : a ≠ t := fun e => by rw [e, nt] at g; cases g
    show (if a = xa ∨ a = dxa then k else if a = t then 98 else ow a) = ow a
    rw [if_neg (by rintro (e | e); exact n1 e; exact n2 e), if_neg n3]
  have ox : ow' xa = k := if_pos (.inl rfl)
  have odx : ow' dxa = k := if_pos (.inr rfl)
  have ot : ow' t = 98 := by
    show (if t = xa ∨ t = dxa then k else if t = t then 98 else ow t) = 98
    rw [if_neg (by rintro (e | e); exact t1 e; exact t2 e), if_pos rfl]
  obtain ⟨m2, m3, m4, m5⟩ := ents_full (kept := (r :: (M9 ++ [z]))) (l := l) (xa := xa) (dxa := dxa) (f := f) (i := i) (vt := vt) hxs hxo hxl hxk hkx hnx C.nodupK hno
  have hoM : ∀ b ∈ adr M9, b ∉ [c, dc, d, r.x, r.dx, l.x, l.dx, z.x, z.dx, gk] := fun b hb hT9 => by
    have hG : gk ∉ adr M9 := fun hm => hgo (C.own gk (by simp [adr, adr_append, hm])).1
    rcases List.mem_append.mp (show b ∈ [c, dc, d, r.x, r.dx, l.x, l.dx, z.x, z.dx] ++ [gk] from hT9) with h9 | h9
    · exact off_mid (T := [c, dc, d, r.x, r.dx, l.x, l.dx, z.x, z.dx]) (pre := [c, dc, d, r.x, r.dx]) (post := [z.x, z.dx, l.x, l.dx]) (by simpa only [List.cons_append, List.append_assoc, List.nil_append] using hnd) (by simp) b hb h9
    · exact hG (by rw [← List.mem_singleton.mp h9]; exact hb)
  have sg : Seg w.params h' .none ((⟨xa, dxa, q, key, i, vt, f⟩ : Rec) :: (r :: (M9 ++ [z]))) .none := by
    simp only [Seg, seg_append, firstK_nil, firstK_cons, firstK_append, lastRef, lastRef_append, and_true, and_assoc, List.cons_append, List.nil_append]
    exact ⟨⟨(N' _ (.tail _ (.tail _ (.tail _ (.tail _ (.tail _ (.tail _ (.tail _ (.tail _ (.tail _ (.head _))))))))))).1, _, _, _, _, _, _, (N' _ (.tail _ (.tail _ (.tail _ (.tail _ (.tail _ (.tail _ (.tail _ (.tail _ (.tail _ (.tail _ (.head _)))))))))))).1⟩, ⟨(N' _ (.tail _ (.tail _ (.tail _ (.tail _ (.tail _ (.tail _ (.tail _ (.tail _ (.tail _ (.tail _ (.tail _ (.head _))))))))))))).1, _, _, _, _, _, _, (N' _ (.tail _ (.tail _ (.tail _ (.tail _ (.tail _ (.tail _ (.tail _ (.tail _ (.tail _ (.tail _ (.tail _ (.tail _ (.head _)))))))))))))).1⟩, hsM.keep (fun b hb o e => K' b o e (hoM b hb)), ⟨(N' _ (.tail _ (.tail _ (.tail _ (.tail _ (.tail _ (.tail _ (.tail _ (.head _))))))))).1, _, _, _, _, _, _, (N' _ (.tail _ (.tail _ (.tail _ (.tail _ (.tail _ (.tail _ (.tail _ (.tail _ (.head _)))))))))).1⟩⟩
  exact ret h' tk' ow' xa dxa t F' he (C.added (kept := (r :: (M9 ++ [z]))) (rest := [l]) hk98 K' hT hgk (by simp) he (N' _ (.tail _ (.tail _ (.tail _ (.tail _ (.tail _ (.tail _ (.tail _ (.tail _ (.tail _ (.head _))))))))))) (N' _ (.tail _ (.tail _ (.tail _ (.tail _ (.tail _ (.tail _ (.tail _ (.tail _ (.tail _ (.tail _ (.head _)))))))))))).2 ox odx nx ndx hxd hkx hno htl (N' _ (.tail _ (.tail _ (.tail _ (.tail _ (.head _)))))).1 (by simp only [firstRef, lastRef, lastRef_append, List.cons_append, List.nil_append]; exact ⟨_, _, _, _, _, _, _, (N' _ (.tail _ (.tail _ (.tail _ (.tail _ (.tail _ (.head _))))))).1⟩) (N' _ (.tail _ (.tail _ (.tail _ (.tail _ (.tail _ (.tail _ (.head _)))))))).1 m2 m3 m4 m5 sg hsm) (K'.weaken hT2) (N' _ (.tail _ (.head _))).1 (N' _ (.head _)).1 nt (N' _ (.head _)).2.1 (N' _ (.head _)).2.2 ot
end
end Mine
end
section
theorem Mine.off_InitW : True := by w_top off; exact True.intro
set_option maxRecDepth 100000
set_option linter.unusedVariables false
namespace Mine
open PySem PySem.W PySem.Spec PySem.Calls PyProof.Rows

section
variable {prog : Program} {w : World} {A : Around} {E : Value → Shared → Prop} {s : Shared} {h₀ : Heap} {L : Addr} {m : Str → Option Value} {news : List (Addr × Obj)}
theorem newDict_E {env : Env} {pos : Pos} {Q : Value → Shared → Prop} (F : Fr h₀ L s.heap m) (N : News h₀ L s.heap news) (hbig : h₀.NoLimit)
    (k : ∀ d h', Fr h₀ L h' m → News h₀ L h' ((d, dictOf [] 0) :: news) → (∀ p ∈ news, p.1 < d) → (d == sysModules) = false → Q (.ref d) { s with heap := h' }) : wpAny (model prog w) A (eval (.Dict [] [] pos) env) Q E s := by
  rw [eval_Dict_empty]
  refine wpAny_bind (wpAny_standAt ?_)
  unfold newDict
  exact wpAny_newObj_type (k _ _ (F.push _) (N.push F _) (fun p hp => Heap.lt_size (N p hp).1) (F.notModules (modules_low hbig))) (by size_fits)
end
section
variable {prog : Program} {w : World} {A : Around} {E : Value → Shared → Prop} {s : Shared} {h₀ : Heap} {L d : Addr} {news : List (Addr × Obj)} {Q : Value → Shared → Prop}
theorem len_emptyN (N : News h₀ L s.heap news) (hm : (d, dictOf [] 0) ∈ news) (hd : (d == sysModules) = false) (h : ∀ tk tk', Q (.int 0 tk) { s with toks := tk' }) :
    wpAny (model prog w) A (call (.builtin "len") [.ref d]) Q E s := len_keyN (w := w) (xs := []) (n := 0) N hm hd (by simp only [List.length_nil]; omega) h
end
theorem fillI : (PySem.Challenge.rw_bb0035_01 = PySem.Challenge.rw_bb0035_01) ∧ (hd.heap_39 = hd.heap_39) := by k_fill; exact ⟨rfl, rfl⟩

local macro_rules | `(tactic| k_room) => `(tactic| ktr_room)
local macro_rules | `(tactic| k_units) => `(tactic| ktr_units)
local macro_rules | `(tactic| ktr_enter) => `(tactic| (refine' code_def ?k1 ?k2 ?k3 ?k4 ?k5 ?kA ?kF ?kK ?k6 ?k7 ?k8 ?k9 ?kB ?_ ?c2 ?c3 ?c4 ?c5; (case kA => exact rfl); (case kF => exact rfl); (case kK => assumption); (case k1 => k_asm); (case k2 => k_asm); (case k3 => k_asm); (case k4 => k_asm); (case k5 => k_asm); (case k6 => k_is); (case k7 => k_is); (case k8 => ktr_room); (case k9 => first | exact BindsTo.of_eq rfl | exact binds_K (by k_in) rfl (by k_is) rfl rfl rfl); (case c5 => decide); (case kB => exact locs rfl); (case c2 => exact rfl); (case c3 => exact rfl); (case c4 => exact rfl); k_whole; intro g' L' h' FG' F' N' B' X' T'; (try dsimp only); (try k_fold)))
local macro_rules | `(tactic| k_all) => `(tactic| exact fun p hp => Nat.ne_of_lt (ktn_ltOf (by assumption) p hp))
local macro_rules | `(tactic| walk_at "eval Dict nil nil") => `(tactic| (k_here; k_dflt (refine' newDict_E ?k1 ?k2 (TopRead.nolimit (by k_asm)) ?_; (case k1 => k_asm); (case k2 => k_asm); k_whole); intro d' h' F' N' l1 lo'; (try k_lt l1); (try k_sweep)))
local macro_rules | `(tactic| walk_at "call builtin:len") => `(tactic| (k_here; (with_reducible show wpAny _ _ (call (Value.builtin "len") [Value.ref _]) _ _ _); k_dflt (refine' len_emptyN ?k1 ?k2 ?k3 ?_; (case k1 => k_asm); (case k2 => k_mem); (case k3 => k_asm); k_whole); intro tk8 tk9))

local macro_rules | `(tactic| walk_at "WhlIf") => `(tactic| first | refine WhlIf.yes (decide_eq_true (by first | with_reducible assumption | omega)) ?_ | refine WhlIf.no (decide_eq_false (by omega)) ?_)

section
variable {prog : Program} {w : World} {p : Program} {loose : List Str} {mean : ExcName → Option Value} {mg mb : Str → Option Value}

set_option maxHeartbeats 4000000 in
theorem init_call {dp un : Nat} {gd : Option (List Code)} {cn : Str} {cs : Scope} {a : Addr} {ccd : Value} {cl : List (Str × Addr)} {outer : List Env} {A₀ : Around} {base h₀ : Heap} {L : Addr} {m : Str → Option Value} {s : Shared} {Q E : Value → Shared → Prop} {M : Int} {t t' : Tok} {news : List (Addr × Obj)}
    (B : Below A₀ base outer h₀) (F : Fr h₀ L s.heap m) (X : (hd.heap_39 w.params).In h₀) (T : Top p loose mean mg mb h₀) (hk : cs.kind = .function) (hd : dp + 60 < recursionLimit) (hu : un + 700 < cLine) (hM : 0 < M) (N : News h₀ L s.heap news)
    (ret : ∀ h' tk' c dc d tc1 tc2 tc3 tc4 tc5 ta, Fr h₀ L h' m → News h₀ L h' ((d, dictK w [] 0) :: (c, instObj 189 dc) :: (dc, cacheD w.params tc1 tc2 tc3 tc4 tc5 (.ref d) .none .none (.int M t) (.int M ta)) :: news) → (∀ p ∈ news, p.1 < dc) → dc < c → c < d → (d == sysModules) = false → Q (.ref c) { s with heap := h', toks := tk' }) :
    wpAny (model prog w) (ktrTop dp un gd cn cs L a ccd cl outer) (call (.ref 189) [.int M t, .int M t']) Q E s := by
  k_dflt (refine' call_cls ?k1 ?k2 ?k3 ?k4 ?k5 ?k6 ?_; (case k1 => exact F); (case k2 => exact X); (case k3 => exact N); (case k4 => k_is); (case k5 => k_is); (case k6 => k_is); k_whole)
  intro c9 dc9 h9 F9 N9 l1 l2
  have l1_ := l1
  replace l1 := allLt_of l1
  clear N
  have l2_ := l2
  replace l2 := ltN l2
  k_dflt ktr_enter
  k_steps
  (rename Fr h₀ L _ m => F8); (rename News h₀ L _ _ => N8); (rename (_ == sysModules) = false => lo8)
  rename (c9 < _ ∧ _) => l8
  simp only [ite_self] at N8
  exact ret _ _ _ _ _ _ _ _ _ _ _ F8 N8 l1_ l2_ l8.1 lo8
end
end Mine
end
section
set_option maxRecDepth 100000
set_option linter.unusedVariables false
namespace Mine
open PySem PySem.W PySem.Spec PySem.Calls PyProof.Rows
section
variable {prog : Program} {w : World} {p : Program} {loose : List Str} {mean : ExcName → Option Value} {mg mb : Str → Option Value}
  {dp un : Nat} {gd : Option (List Code)} {cn : Str} {cs : Scope} {a : Addr} {ccd : Value} {cl : List (Str × Addr)} {outer : List Env} {A₀ : Around} {base h₀ : Heap} {L : Addr} {m : Str → Option Value} {s : Shared} {Q E : Value → Shared → Prop}
  {ow : Addr → Nat} {k : Nat} {M : Int} {gk c dc d : Addr} {q : Key} {key : Value} {i : Int} {vt : Tok} {f : Addr}
theorem C_add {recs : List Rec}
    (B : Below A₀ base outer h₀) (F : Fr h₀ L s.heap m) (X : (hd.heap_39 w.params).In h₀) (T : Top p loose mean mg mb h₀) (hk : cs.kind = .function) (hd : dp + 60 < recursionLimit) (hu : un + 700 < cLine) (hk98 : k ≠ 98) (hgk : ow gk ≠ 98)
    (C : CacheAt prog w s.heap ow k h₀ L M gk c dc d recs) (hkx : IsKeyW prog w s.heap ow q key) (hno : q ∉ recs.map (·.key))
    (htl : ∃ qual pm ctv c' cg ck lg gs, TellerAt s.heap f k gk qual pm ctv c' cg ck lg gs ∧ ∀ a ∈ [f, c', cg, ck, lg], ow a = 98)
    (hle : (recs.length : Int) + 1 ≤ M) (hsm : recs.length + 1 ≤ 100)
    (ret : ∀ h' tk' ow' xa dxa, Fr h₀ L h' m → (∀ a o, s.heap.get? a = some o → ow' a = ow a) → CacheAt prog w h' ow' k h₀ L M gk c dc d (⟨xa, dxa, q, key, i, vt, f⟩ :: recs) → Keep s.heap h' (c :: dc :: d :: adr recs) → Q .none { s with heap := h', toks := tk' }) :
    wpAny (model prog w) (ktrTop dp un gd cn cs L a ccd cl outer) (call (.ref 101) [.ref c, key, .int i vt, .ref f]) Q E s := by
  rcases recs with _ | ⟨r, R⟩
  · exact adds_first B F X T hk hd hu hk98 hgk C hkx hno htl hle hsm ret
  · rcases List.eq_nil_or_concat R with rfl | ⟨R, l, rfl⟩
    · exact adds_one B F X T hk hd hu hk98 hgk C hkx hno htl hle hsm ret
    · rw [List.concat_eq_append] at *
      exact adds_more B F X T hk hd hu hk98 hgk C hkx hno htl hle hsm ret
theorem C_addf {P : List Rec} {l : Rec} {its : Array Value} {ng : Nat}
    (B : Below A₀ base outer h₀) (F : Fr h₀ L s.heap m) (X : (hd.heap_39 w.params).In h₀) (T : Top p loose mean mg mb h₀) (hk : cs.kind = .function) (hd : dp + 60 < recursionLimit) (hu : un + 700 < cLine) (hk98 : k ≠ 98) (hgk : ow gk ≠ 98)
    (C : CacheAt prog w s.heap ow k h₀ L M gk c dc d (P ++ [l])) (hkx : IsKeyW prog w s.heap ow q key) (hno : q ∉ (P ++ [l]).map (·.key))
    (htl : ∃ qual pm ctv c' cg ck lg gs, TellerAt s.heap f k gk qual pm ctv c' cg ck lg gs ∧ ∀ a ∈ [f, c', cg, ck, lg], ow a = 98)
    (hlen : ((P ++ [l]).length : Int) = M) (hsz : its.size ≤ sizeLine) (hgl : s.heap.get? gk = some (listOf its ng)) (hgn : gk ≠ L ∧ h₀.get? gk = none) (hgo : ow gk ≠ k) (hsm : P.length + 1 ≤ 100)
    (ret : ∀ h' tk' ow' xa dxa t, Fr h₀ L h' m → (∀ a o, s.heap.get? a = some o → ow' a = ow a) → CacheAt prog w h' ow' k h₀ L M gk c dc d (⟨xa, dxa, q, key, i, vt, f⟩ :: P) → Keep s.heap h' (gk :: c :: dc :: d :: adr (P ++ [l])) → h'.get? gk = some (listOf (its.push (.ref t)) (ng + 1)) → h'.get? t = some (tupOf [l.kv, .int l.i l.vt]) → s.heap.get? t = none → t ≠ L → h₀.get? t = none → ow' t = 98 → Q .none { s with heap := h', toks := tk' }) :
    wpAny (model prog w) (ktrTop dp un gd cn cs L a ccd cl outer) (call (.ref 101) [.ref c, key, .int i vt, .ref f]) Q E s := by
  rcases P with _ | ⟨r, R⟩
  · exact adds_full1 B F X T hk hd hu hk98 hgk C hkx hno htl hlen hsz hgl hgn hgo hsm ret
  · rcases List.eq_nil_or_concat R with rfl | ⟨R, z, rfl⟩
    · exact adds_full2 B F X T hk hd hu hk98 hgk C hkx hno htl hlen hsz hgl hgn hgo hsm ret
    · rw [List.concat_eq_append] at *
      exact adds_full B F X T hk hd hu hk98 hgk C hkx hno htl hlen hsz hgl hgn hgo hsm ret
end
end Mine
end
section
set_option maxRecDepth 100000
set_option linter.unusedVariables false
namespace Mine
open PySem PySem.W PySem.Spec PySem.Calls PyProof.Rows

/-! the items of a dict, whatever its keys are -/
section
variable {prog : Program} {w : World} {A : Around} {E : Value → Shared → Prop} {s : Shared} {d it v : Addr} {es : List DictEntry} {n i : Nat}
theorem items_view (hd : (d == sysModules) = false) : MeetsIn prog w (Builtin.«dict.items» ⟨[.ref d], []⟩) (fun _ R s => s.heap.get? d = some (dictOf es n) ∧
      R (.ok (.ret (.ref s.heap.objs.size))) { s with heap := s.heap.push { cls := .type "dict_items", data := .fields #[.ref d] } }) :=
  .of_wp fun A R s ⟨ho, h⟩ => by
    unfold Builtin.«dict.items»
    refine wpAny_bind ?_
    unfold Builtin.Dict.noArgs
    refine wpAny_bind (wpAny_notOrdered_dict (s := s) ⟨_, ho, rfl⟩ ?_)
    show wpAny _ _ (pure d) _ _ s
    refine wpAny_pure ?_
    show wpAny _ _ (Builtin.Dict.showsAll d >>= _) _ _ s
    unfold Builtin.Dict.showsAll
    rw [if_neg (by rw [hd]; exact Bool.false_ne_true)]
    exact wpAny_bind (wpAny_pure (wpAny_bind (wpAny_newObj_type (wpAny_pure ⟨_, rfl, h⟩))))
theorem iter_items {Q : Value → Shared → Prop} (hv : s.heap.IsItemsView v d) (ho : s.heap.get? d = some (dictOf es n))
    (hQ : Q (.ref s.heap.objs.size) { s with heap := s.heap.push { cls := .type "dict_itemiterator", data := .fields #[.none, .bool false, .ref d, .int 0 0, .int es.length 0, .int n 0, .none, .none] } }) :
    wpAny (model prog w) A (pyIter (.ref v)) Q E s := by
  obtain ⟨ov, hov, hcv, hdv⟩ := id hv
  refine wpAny_pyIter_slot hv.typeIs F.slot_dict_items_iter (wpAny_call_entry F.slot_dict_items_iter hv.typeIs F.entry_dict_items_iter ?_ (F.args_dict_items_iter_1 _))
  unfold Builtin.«dict_items.__iter__»
  refine wpAny_bind (wpAny_pure ?_)
  refine wpAny_bind ?_
  unfold Builtin.Dict_items.dictOf
  refine wpAny_bind (wpAny_field hov hdv (x := .ref d) rfl (wpAny_pure ?_))
  refine wpAny_bind ?_
  unfold Builtin.Dict_items.newIterator
  refine wpAny_bind (wpAny_dictEntries ho rfl ?_)
  refine wpAny_bind (wpAny_dictEpoch ho rfl ?_)
  have hown : Builtin.Dict_items.ownsTuple "dict_itemiterator" = true := by decide
  simp only [hown, if_true]
  refine wpAny_newObj_type (wpAny_pure ⟨_, rfl, "dict_itemiterator", _, ⟨_, Heap.get?_push_size _ rfl, rfl⟩, F.slot_dict_itemiterator_next.lookup, ?_⟩)
    (by simp only [sizeOk, Builtin.Dict_items.ownedTupleFields, List.size_toArray, List.length_append, List.length_cons, List.length_nil, sizeLine_eq]; omega)
  simpa [rawInt, Builtin.Dict_items.ownedTupleFields] using hQ
theorem next_items {e : DictEntry} {ok ov : Value} {Q : Option Value → Shared → Prop} (hit : IsItemIter s.heap it d i es.length n ok ov) (ho : s.heap.get? d = some (dictOf es n)) (hx : es[i]? = some e)
    (hQ : ∀ h', IsItemIterOut h' it d (i + 1) es.length n e.key e.val s.heap.objs.size → h'.get? s.heap.objs.size = some { cls := .type "tuple", data := .seq #[e.key, e.val] } →
      (∀ b o, b ≠ it → s.heap.get? b = some o → h'.get? b = some o) → Q (some (.ref s.heap.objs.size)) { s with heap := h' }) :
    wpAny (model prog w) A (pyNext (.ref it)) Q E s := by
  obtain ⟨hp, g, dr, tk, os⟩ := s
  have hT : Shared.TypeIs ⟨hp, g, dr, tk, os⟩ (.ref it) "dict_itemiterator" := ⟨_, hit, rfl⟩
  unfold pyNext
  refine wpAny_bind (wpAny_attempt (wpAny_callSpecial?_slot (name := Str.ofString "__next__") hT F.slot_dict_itemiterator_next
    (wpAny_call_entry F.slot_dict_itemiterator_next hT F.entry_dict_itemiterator_next ?_ (F.args_dict_itemiterator_next_1 _))))
  refine wpAny_bind (wpAny_pure ?_)
  refine wpAny_bind ?_
  refine wpAny_bind ?_
  first | refine wpAny_bind (wpAny_typeNameOfWhole_itemiter hT (wpAny_pure ?_)) | refine wpAny_bind (wpAny_typeNameOf_itemiter hT (wpAny_pure ?_))
  refine wpAny_bind (wpAny_fieldsOf hit rfl ?_)
  have hown : Builtin.Dict_items.ownsTuple "dict_itemiterator" = true := by decide
  simp only [hown, if_true]
  show wpAny _ _ (if (Value.ref d == Value.none) = true then _ else _) _ _ _
  rw [if_neg (show ¬ ((Value.ref d == Value.none) = true) from Bool.false_ne_true)]
  refine wpAny_bind (wpAny_pure ?_)
  refine wpAny_bind (wpAny_dictEntries ho rfl ?_)
  rw [if_neg (by simp)]
  refine wpAny_bind (wpAny_pure ?_)
  refine wpAny_bind (wpAny_dictEpoch ho rfl ?_)
  rw [if_neg (by simp)]
  refine wpAny_pure ?_
  have hx' : es.toArray[i]? = some e := by simpa using hx
  simp only [show ¬ ((i : Int) < 0) from by omega, if_false, Int.toNat_natCast, hx']
  refine wpAny_bind ?_
  first | refine wpAny_bind (wpAny_typeNameOfWhole_itemiter hT (wpAny_pure ?_)) | refine wpAny_bind (wpAny_typeNameOf_itemiter hT (wpAny_pure ?_))
  refine wpAny_bind (wpAny_isOneOf_itemiter hT ?_)
  show wpAny _ _ (setField (.ref it) 3 (rawInt ((i : Int) + 1)) >>= _) _ _ ⟨hp, g, dr, tk, os⟩
  refine wpAny_bind (wpAny_setField_rec hit (by simp) fun h₁ he₁ hs₁ => ?_)
  replace hs₁ : Heap.SameBut it hp h₁ := hs₁
  replace he₁ : IsItemIter h₁ it d (i + 1) es.length n ok ov := by
    have e : ((i + 1 : Nat) : Int) = (i : Int) + 1 := by omega
    unfold IsItemIter; rw [e]; simpa [rawInt] using he₁
  have hT₁ : Shared.TypeIs ⟨h₁, g, dr, tk, os⟩ (.ref it) "dict_itemiterator" := ⟨_, he₁, rfl⟩
  refine wpAny_bind (wpAny_holding ?_)
  refine wpAny_bind (wpAny_isOneOf_itemiter hT₁ ?_)
  refine wpAny_bind (wpAny_isOneOf_itemiter hT₁ ?_)
  show wpAny _ _ (Builtin.Dict_items.pairFromOwner (.ref it) 6 e.key e.val) _ _ ⟨h₁, g, dr, tk, os⟩
  unfold Builtin.Dict_items.pairFromOwner
  refine wpAny_bind (wpAny_newTuple ?_)
  have he₂ : IsItemIter (h₁.push { cls := .type "tuple", data := .seq #[e.key, e.val] }) it d (i + 1) es.length n ok ov := Heap.get?_push_of_some _ he₁
  generalize hh₂ : h₁.push { cls := .type "tuple", data := .seq #[e.key, e.val] } = h₂ at he₂
  have hz₁ : h₁.objs.size = hp.objs.size := hs₁.1
  have hil : it < hp.objs.size := Heap.lt_size hit
  have ht₂ : h₂.get? hp.objs.size = some { cls := .type "tuple", data := .seq #[e.key, e.val] } := by rw [← hh₂, ← hz₁]; exact Heap.get?_push_size _ rfl
  have hk₂ : ∀ b o, b ≠ it → hp.get? b = some o → h₂.get? b = some o := fun b o hb e => by rw [← hh₂]; exact Heap.get?_push_of_some _ (hs₁.extBut b o hb e)
  show wpAny _ _ (Builtin.Dict_items.ownedTupleIsFree (.ref it) >>= _) _ _ ⟨h₂, g, dr, tk, os⟩
  rw [hz₁]
  clear hh₂ he₁ hs₁ hT₁ hz₁ h₁
  refine wpAny_bind ?_
  unfold Builtin.Dict_items.ownedTupleIsFree
  refine wpAny_bind (wpAny_field he₂ rfl (x := .none) rfl (wpAny_pure ?_))
  simp only [if_true]
  refine wpAny_bind (wpAny_field he₂ rfl (x := ok) rfl ?_)
  refine wpAny_bind (wpAny_field he₂ rfl (x := ov) rfl ?_)
  refine wpAny_bind (wpAny_setField_rec he₂ (by simp) fun h₃ he₃ hs₃ => ?_)
  replace hs₃ : Heap.SameBut it h₂ h₃ := hs₃
  replace he₃ : IsItemIter h₃ it d (i + 1) es.length n e.key ov := he₃
  refine wpAny_bind (wpAny_setField_rec he₃ (by simp) fun h₄ he₄ hs₄ => ?_)
  replace hs₄ : Heap.SameBut it h₃ h₄ := hs₄
  replace he₄ : IsItemIter h₄ it d (i + 1) es.length n e.key e.val := he₄
  refine wpAny_bind (wpAny_setField_rec he₄ (by simp) fun h₅ he₅ hs₅ => ?_)
  replace hs₅ : Heap.SameBut it h₄ h₅ := hs₅
  replace he₅ : IsItemIterOut h₅ it d (i + 1) es.length n e.key e.val hp.objs.size := he₅
  refine wpAny_bind (wpAny_setField_rec he₅ (by simp) fun h₆ he₆ hs₆ => ?_)
  replace hs₆ : Heap.SameBut it h₅ h₆ := hs₆
  replace he₆ : IsItemIterOut h₆ it d (i + 1) es.length n e.key e.val hp.objs.size := he₆
  refine wpAny_bind (wpAny_letGo (wpAny_pure (wpAny_pure ⟨_, rfl, wpAny_pure (hQ h₆ he₆ ?_ ?_)⟩)))
  · exact hs₆.extBut _ _ (Nat.ne_of_gt hil) (hs₅.extBut _ _ (Nat.ne_of_gt hil) (hs₄.extBut _ _ (Nat.ne_of_gt hil) (hs₃.extBut _ _ (Nat.ne_of_gt hil) ht₂)))
  · exact fun b o hb e => hs₆.extBut b o hb (hs₅.extBut b o hb (hs₄.extBut b o hb (hs₃.extBut b o hb (hk₂ b o hb e))))
theorem end_items {ok ov : Value} {Q : Option Value → Shared → Prop} (hh : A.handled = none) (hit : IsItemIter s.heap it d i es.length n ok ov) (ho : s.heap.get? d = some (dictOf es n)) (hx : es[i]? = none)
    (hQ : ∀ h', Heap.ExtBut it s.heap h' → Q none { s with heap := h' }) : wpAny (model prog w) A (pyNext (.ref it)) Q E s := by
  have hT : s.TypeIs (.ref it) "dict_itemiterator" := ⟨_, hit, rfl⟩
  unfold pyNext
  refine wpAny_bind (wpAny_attempt (wpAny_callSpecial?_slot (name := Str.ofString "__next__") hT F.slot_dict_itemiterator_next
    (wpAny_call_entry F.slot_dict_itemiterator_next hT F.entry_dict_itemiterator_next ?_ (F.args_dict_itemiterator_next_1 _))))
  refine wpAny_bind (wpAny_pure ?_)
  refine wpAny_bind ?_
  refine wpAny_bind ?_
  first | refine wpAny_bind (wpAny_typeNameOfWhole_itemiter hT (wpAny_pure ?_)) | refine wpAny_bind (wpAny_typeNameOf_itemiter hT (wpAny_pure ?_))
  refine wpAny_bind (wpAny_fieldsOf hit rfl ?_)
  have hown : Builtin.Dict_items.ownsTuple "dict_itemiterator" = true := by decide
  simp only [hown, if_true]
  show wpAny _ _ (if (Value.ref d == Value.none) = true then _ else _) _ _ s
  rw [if_neg (show ¬ ((Value.ref d == Value.none) = true) from Bool.false_ne_true)]
  refine wpAny_bind (wpAny_pure ?_)
  refine wpAny_bind (wpAny_dictEntries ho rfl ?_)
  rw [if_neg (by simp)]
  refine wpAny_bind (wpAny_pure ?_)
  refine wpAny_bind (wpAny_dictEpoch ho rfl ?_)
  rw [if_neg (by simp)]
  refine wpAny_pure ?_
  have hx' : es.toArray[i]? = none := by simpa using hx
  simp only [show ¬ ((i : Int) < 0) from by omega, if_false, Int.toNat_natCast, hx']
  refine wpAny_bind ?_
  first | refine wpAny_bind (wpAny_typeNameOfWhole_itemiter hT (wpAny_pure ?_)) | refine wpAny_bind (wpAny_typeNameOf_itemiter hT (wpAny_pure ?_))
  show wpAny _ _ (setField (.ref it) 2 .none >>= _) _ _ s
  refine wpAny_bind (wpAny_setField hit rfl (by simp) ?_)
  show wpAny _ _ (newExc (.type "StopIteration") [] >>= _) _ _ _
  refine wpAny_bind ?_
  simp only [newExc, newTuple]
  refine wpAny_bind (wpAny_newObj_type ?_ (by size_fits))
  refine wpAny_bind (m := firstArgMember _ _) (wpAny_of_eq (a := Value.none) (by first | rfl | (simp only [firstArgMember]; rfl)) ?_)
  refine wpAny_newObj_type ?_ (by size_fits)
  simp only [raiseNew]
  refine wpAny_bind (wpAny_handled ?_)
  rw [show A.in1.handled = none from hh]
  refine wpAny_bind (wpAny_pure (wpAny_throw ?_))
  refine wpAny_bind (wpAny_isInstance (T := "StopIteration") (b := true) ⟨_, Heap.get?_push_size _ rfl, rfl⟩ isSubtype_stop ?_)
  exact wpAny_pure (hQ _ (((Heap.SameBut.update ..).extBut.push _).push _))
/-- a new key into a dict, by the comprehension's own way -/
theorem dictSet_new {xs : Ents} {k : Key} {key v : Value} {Q : Unit → Shared → Prop} (hu : A.units < cLine) (hkey : IsKey prog w s.heap k key) (ho : s.heap.get? d = some (dictK w xs n)) (hx : Keyed prog w s.heap xs) (hno : k ∉ keysOf xs)
    (hQ : ∀ h' tk, h'.get? d = some (dictK w (xs ++ [(k, key, v)]) (n + 1)) → Heap.SameBut d s.heap h' → Q () { s with heap := h', toks := tk }) (hsz : xs.length ≤ sizeLine) :
    wpAny (model prog w) A (dictSet d key v) Q E s := by
  unfold dictSet
  try with_reducible refine wpAny_holding ?_
  refine wpAny_bind (pyHash_key hu hkey fun tk => ?_)
  unfold dictSetHashed
  try with_reducible refine wpAny_holding ?_
  refine wpAny_bind (dictFind_key (s := { s with toks := tk }) hu hkey ho rfl hx (fun _ => ?_) fun j p hj => absurd (List.mem_map.mpr ⟨_, List.mem_of_getElem? hj, rfl⟩) hno)
  refine wpAny_bind (wpAny_rule (wpAny_updateDictKeys (hz := by rw [List.size_toArray, List.length_map]; exact hsz) (s := { s with toks := tk }) ho rfl ?_))
  refine hQ _ tk ?_ (Heap.SameBut.update ..)
  have e : Obj.mapDictKeys (fun a => a.push ⟨hashK w k, key, v⟩) (dictK w xs n) = dictK w (xs ++ [(k, key, v)]) (n + 1) := by
    simp [dictK, dictOf, Obj.mapDictKeys, entK]
  rw [← e]
  exact Heap.get?_update_self _ ho rfl
end
section
variable {prog : Program} {w : World} {A : Around} {E : Value → Shared → Prop} {R : Result → Shared → Prop} {s : Shared}
theorem dc_loop {kx vx target iter : PySem.Expr} {scope : Scope} {pos : Pos} {it : Value} {D : Addr} {env : Env} (I : Nat → Shared → Prop)
    (turn : ∀ n s, I n s → wpAny (model prog w) A (pyNext it) (fun r s₁ => match r with
      | none => R (.ok .next) s₁
      | some v => wpAny (model prog w) A (letOwnedTupleGo target it v) (fun _ s₀ => wpAny (model prog w) A (assign target env v) (fun _ s₂ =>
          wpAny (model prog w) A (eval kx env) (fun kv s₄ => wpAny (model prog w) A (eval vx env) (fun vv s₅ =>
            wpAny (model prog w) A (dictSet D kv vv) (fun _ s₆ => ∃ m, m < n ∧ I m s₆) (notedBy (model prog w) A env fun e s' => R (.error e) s') s₅) (notedBy (model prog w) A env fun e s' => R (.error e) s') s₄) (notedBy (model prog w) A env fun e s' => R (.error e) s') s₂)
          (notedBy (model prog w) A env fun e s' => R (.error e) s') s₀) (notedBy (model prog w) A env fun e s' => R (.error e) s') s₁) (notedBy (model prog w) A env fun e s' => R (.error e) s') s)
    (n : Nat) (h : I n s) : codeAny (model prog w) A (.compLoop (.DictComp kx vx [⟨target, iter, [], 0⟩] scope pos) 0 it (.ref D) env) R s := by
  refine codeAny_loop rfl I (fun n s hI => ?_) n h
  show wpAny _ A ((compTurn (.DictComp kx vx [⟨target, iter, [], 0⟩] scope pos) 0 it (.ref D) env).onRaise (fun x => do noteFrame x env; theTreesLotGoes x)) _ _ s
  refine wpAny_noted ?_
  rw [compTurn_dict]
  refine wpAny_bind (wpAny_standAt (wpAny_bind (wpAny_mono (turn n s hI) (fun r s₁ h₁ => ?_) fun _ _ h' => h')))
  cases r with
  | none => exact wpAny_pure h₁
  | some v =>
    refine wpAny_bind (wpAny_mono h₁ (fun _ s₀ h₀' => ?_) fun _ _ h' => h')
    refine wpAny_bind (wpAny_mono h₀' (fun _ s₂ h₂ => ?_) fun _ _ h' => h')
    refine wpAny_bind (wpAny_tests_nil ?_)
    exact wpAny_bind (wpAny_bind (wpAny_mono h₂ (fun kv s₄ h₄ => wpAny_bind (wpAny_holding (wpAny_mono h₄ (fun vv s₅ h₅ => wpAny_bind (wpAny_standAt (wpAny_holding (wpAny_mono h₅ (fun _ s₆ h₆ => wpAny_pure ⟨rfl, h₆⟩) fun _ _ h' => h')))) fun _ _ h' => h'))) fun _ _ h' => h'))
end
end Mine
end
section
set_option maxRecDepth 100000
set_option linter.unusedVariables false
namespace Mine
open PySem PySem.W PySem.Spec PySem.Calls PyProof.Rows
section
variable {prog : Program} {w : World} {A : Around} {E : Value → Shared → Prop} {env : Env}

/-- the entries of the copy -/
def copyK (f : Key × Value × Value → Value) (xs : Ents) : Ents := xs.map fun e => (e.1, e.2.1, f e)
theorem keysOf_copyK (f : Key × Value × Value → Value) (xs : Ents) : keysOf (copyK f xs) = keysOf xs := by simp [keysOf, copyK]

theorem dc_comp {s : Shared} {vx iter : PySem.Expr} {a b : Str} {pa pa2 pb tp : Pos} {kk : Nat} {scope : Scope} {cl : List (Str × Addr)} {pos : Pos} {Q : Value → Shared → Prop} (f : Key × Value × Value → Value)
    (hh : A.handled = none) (hu : A.units < cLine)
    (hclos : closureFor scope env = pure cl) (hcell : ∀ y ∈ scope.names, y.2 ≠ .cell) (hkind : scope.kind = .function)
    (hnames : ∀ y ∈ scope.names, y.2 = .local → scope.names.lookup y.1 = some .local) (hxa : scope.names.lookup a = some .local) (hxb : scope.names.lookup b = some .local) (hab : ¬ a = b)
    (hda : (a == ("__debug__" : Str)) = false) (hna : (a == ("__classdict__" : Str)) = false)
    (h : wpAny (model prog w) A (eval iter env) (fun xv s₀ => wpAny (model prog w) A (held (pure xv)) (fun xv s₁ => ∃ vw d xs n, xv = .ref vw ∧ s₁.heap.IsItemsView vw d ∧ s₁.heap.get? d = some (dictK w xs n) ∧ Keyed prog w s₁.heap xs ∧ xs.length ≤ sizeLine ∧
      (∀ C s₃ m₃ E' e, e ∈ xs → s₃.heap.Ns C m₃ → m₃ b = some e.2.2 → (∀ c o, s₁.heap.get? c = some o → s₃.heap.get? c = some o) →
        wpAny (model prog w) A (eval vx (compEnvC scope cl C env)) (fun y s₄ => y = f e ∧ ∃ tk, s₄ = { s₃ with toks := tk }) E' s₃) ∧
      (∀ D h' tk, (∀ c o, s₁.heap.get? c = some o → h'.get? c = some o) → s₁.heap.get? D = none → s₁.heap.objs.size ≤ D → h'.get? D = some (dictK w (copyK f xs) xs.length) → Q (.ref D) { s₁ with heap := h', toks := tk })) E s₀) E s)
    (hs : ∀ x, foldedSetIterable iter env x = pure x := by intro _; rfl) :
    wpAny (model prog w) A (eval (.DictComp (.Name a pa2) vx [⟨.Tuple [.Name a pa, .Name b pb] kk tp, iter, [], 0⟩] scope pos) env) Q E s := by
  rw [arm_eval_DictComp]
  refine wpAny_comprehension_free (use := none) rfl hs hclos hkind hnames (wpAny_mono h (fun xv s₀ h₀ => ?_) fun _ _ e => e)
  rw [show pyIter xv = (held (pure xv) >>= fun xv => pyIter xv) from rfl]
  refine wpAny_bind (wpAny_mono h₀ (fun xv s₁ h₁ => ?_) fun _ _ e => e)
  obtain ⟨vw, d, xs, n, rfl, hv, hd, hx, hsz, hval, hQ⟩ := h₁
  refine iter_items hv hd ?_
  generalize hs₂ : ({ s₁ with heap := s₁.heap.push { cls := .type "dict_itemiterator", data := .fields #[.none, .bool false, .ref d, .int 0 0, .int (xs.map (entK w)).length 0, .int n 0, .none, .none] } } : Shared) = s₂
  have hI : IsItemIter s₂.heap s₁.heap.objs.size d 0 (xs.map (entK w)).length n .none .none := by rw [← hs₂]; exact Heap.get?_push_size _ rfl
  have old₂ : ∀ c o, s₁.heap.get? c = some o → s₂.heap.get? c = some o := fun c o e => by rw [← hs₂]; exact Heap.get?_push_of_some _ e
  have hsz₂ : s₂.heap.objs.size = s₁.heap.objs.size + 1 := by rw [← hs₂, Heap.size_push]
  have hQ₂ : ∀ D h' tk, (∀ c o, s₁.heap.get? c = some o → h'.get? c = some o) → s₁.heap.get? D = none → s₁.heap.objs.size ≤ D → h'.get? D = some (dictK w (copyK f xs) xs.length) → Q (.ref D) { s₂ with heap := h', toks := tk } := fun D h' tk k1 k2 k3 k4 => by rw [← hs₂]; exact hQ D h' tk k1 k2 k3 k4
  have hg : s₂.toks = s₁.toks := by rw [← hs₂]
  clear hs₂ hQ
  refine wpAny_newObj_type (wpAny_newFunctionEnv hcell (by intro y hy; simp at hy) (fun h₁ hns₁ hsb₁ => ?_) hkind)
  dsimp only at hns₁ hsb₁ ⊢
  have hnew : (s₂.heap.push { cls := .type "dict", dict := none, data := .dict #[] }).get? s₂.heap.objs.size = some (dictK w [] 0) := Heap.get?_push_size _ rfl
  generalize hH2 : s₂.heap.push { cls := .type "dict", dict := none, data := .dict #[] } = H2 at hns₁ hsb₁ hnew ⊢
  have hC : H2.objs.size = s₂.heap.objs.size + 1 := by rw [← hH2, Heap.size_push]
  have hDC : s₂.heap.objs.size ≠ H2.objs.size := by rw [hC]; exact Nat.ne_of_lt (Nat.lt_succ_self _)
  have hIC : s₁.heap.objs.size ≠ H2.objs.size := by rw [hC, hsz₂]; exact Nat.ne_of_lt (Nat.lt_succ_of_lt (Nat.lt_succ_self _))
  have hID : s₁.heap.objs.size ≠ s₂.heap.objs.size := by rw [hsz₂]; exact Nat.ne_of_lt (Nat.lt_succ_self _)
  have below : ∀ c o, s₁.heap.get? c = some o → c ≠ s₁.heap.objs.size ∧ c ≠ H2.objs.size ∧ c ≠ s₂.heap.objs.size := fun c o e => by
    have := Heap.lt_size e
    refine ⟨Nat.ne_of_lt this, ?_, ?_⟩
    · rw [hC, hsz₂]; exact Nat.ne_of_lt (Nat.lt_succ_of_lt (Nat.lt_succ_of_lt this))
    · rw [hsz₂]; exact Nat.ne_of_lt (Nat.lt_succ_of_lt this)
  have old2 : ∀ c o, c ≠ H2.objs.size → s₂.heap.get? c = some o → h₁.get? c = some o := fun c o hc e => hsb₁.extBut c o hc (Heap.get?_push_of_some _ (hH2 ▸ Heap.get?_push_of_some _ e))
  have old : ∀ c o, s₁.heap.get? c = some o → h₁.get? c = some o := fun c o e => old2 c o (below c o e).2.1 (old₂ c o e)
  have hacc : h₁.get? s₂.heap.objs.size = some (dictK w [] 0) := hsb₁.extBut _ _ hDC (Heap.get?_push_of_some _ hnew)
  have hI₁ : IsItemIter h₁ s₁.heap.objs.size d 0 (xs.map (entK w)).length n .none .none := old2 _ _ hIC hI
  have hDn : s₁.heap.get? s₂.heap.objs.size = none := by
    cases e : s₁.heap.get? s₂.heap.objs.size with
    | none => rfl
    | some o' => exact absurd rfl (below _ _ e).2.2
  clear old2 hH2 hnew hsb₁ hI
  have loop : ∀ s₃ : Shared, s₃ = { s₂ with heap := h₁, toks := s₂.toks + ([] : List (Str × Value)).length } →
      codeAny (model prog w) A (.compLoop (.DictComp (.Name a pa2) vx [⟨.Tuple [.Name a pa, .Name b pb] kk tp, iter, [], 0⟩] scope pos) 0 (.ref s₁.heap.objs.size) (.ref s₂.heap.objs.size) (compEnvC scope cl H2.objs.size env))
        (compPost (model prog w) A E none Q (.ref s₂.heap.objs.size) H2.objs.size) s₃ := by
    rintro s₃ rfl
    refine dc_loop
      (fun k s' => ∃ h' tk i m', s' = { s₂ with heap := h', toks := tk } ∧ i ≤ xs.length ∧ k = xs.length + 1 - i ∧ (∃ ok ov, IsItemIter h' s₁.heap.objs.size d i (xs.map (entK w)).length n ok ov) ∧ h'.Ns H2.objs.size m' ∧
        h'.get? s₂.heap.objs.size = some (dictK w (copyK f (xs.take i)) i) ∧ (∀ c o, s₁.heap.get? c = some o → h'.get? c = some o)) ?_ (xs.length + 1)
      ⟨h₁, _, 0, _, rfl, Nat.zero_le _, rfl, ⟨_, _, hI₁⟩, hns₁, by simpa [copyK] using hacc, old⟩
    rintro k s' ⟨h', tk, i, m', rfl, hi, rfl, ⟨ok, ov, hit'⟩, hn', hD', keep⟩
    have hd' := keep d _ hd
    by_cases hlt : i < xs.length
    · have hxi : xs[i]? = some xs[i] := List.getElem?_eq_getElem hlt
      have hei : (xs.map (entK w))[i]? = some (entK w xs[i]) := by rw [List.getElem?_map, hxi]; rfl
      refine next_items (s := { s₂ with heap := h', toks := tk }) hit' hd' hei fun h₂ hit₂ hT₂ hk₂ => ?_
      dsimp only at hT₂ hk₂ ⊢
      refine wpAny_letOwnedTupleGo_items (s := { s₂ with heap := h₂, toks := tk }) hit₂ fun h₃ hit₃ hs₃ => ?_
      have hTI : h'.objs.size ≠ s₁.heap.objs.size := Nat.ne_of_gt (Heap.lt_size hit')
      have up₃ : ∀ c o, c ≠ s₁.heap.objs.size → h'.get? c = some o → h₃.get? c = some o := fun c o hc e => hs₃.extBut c o hc (hk₂ c o hc e)
      have hT₃ : h₃.IsTuple h'.objs.size #[xs[i].2.1, xs[i].2.2] := ⟨_, hs₃.extBut _ _ hTI hT₂, rfl, _, rfl⟩
      refine kcp_assign (env := compEnvC scope cl H2.objs.size env) (s := { s₂ with heap := h₃, toks := tk }) hh hT₃ (lookup_relabel_local hxa) (lookup_relabel_local hxb) (by simp [compEnvC, relabel, hkind]) (hn'.at' fun o e => up₃ _ o (Ne.symm hIC) e) fun h₄ tk₄ hn₄ hs₄ => ?_
      have up : ∀ c o, c ≠ s₁.heap.objs.size → c ≠ H2.objs.size → h'.get? c = some o → h₄.get? c = some o := fun c o h1 h2 e => hs₄ c o h2 (up₃ c o h1 e)
      have keep₄ : ∀ c o, s₁.heap.get? c = some o → h₄.get? c = some o := fun c o e => up c o (below c o e).1 (below c o e).2.1 (keep c o e)
      have hI₄ : IsItemIter h₄ s₁.heap.objs.size d (i + 1) (xs.map (entK w)).length n _ _ := hs₄ _ _ hIC hit₃
      have hD₄ : h₄.get? s₂.heap.objs.size = some (dictK w (copyK f (xs.take i)) i) := up _ _ (Ne.symm hID) hDC hD'
      refine wpAny_Name (wpAny_loadName_local (v := xs[i].2.1) (s := { s₂ with heap := h₄, toks := tk₄ }) (show (compEnvC scope cl H2.objs.size env).scope.kind = .function from hkind) (lookup_relabel_local hxa) hn₄ (by simp [hab]) ?_) hda
      refine wpAny_mono (hval H2.objs.size { s₂ with heap := h₄, toks := tk₄ } _ _ xs[i] (List.getElem_mem hlt) hn₄ (by simp) keep₄) (fun y s₅ h₅ => ?_) fun _ _ e => e
      obtain ⟨rfl, tk₅, rfl⟩ := h₅
      dsimp only
      have hxs₄ : Keyed prog w h₄ xs := hx.keeps keep₄
      have hKt : Keyed prog w h₄ (copyK f (xs.take i)) := ⟨fun z hz => by
          obtain ⟨z', hz', rfl⟩ := List.mem_map.mp hz
          exact hxs₄.is z' (List.mem_of_mem_take hz'), by
          rw [keysOf_copyK]; exact (List.take_sublist i xs).map _ |>.nodup hx.nodup⟩
      have hno : xs[i].1 ∉ keysOf (copyK f (xs.take i)) := by
        rw [keysOf_copyK]
        intro hm
        obtain ⟨z, hz, e⟩ := List.mem_map.mp hm
        obtain ⟨j, hj, e2⟩ := List.mem_take_iff_getElem.mp hz
        have := idxK_unique hx.nodup (i := j) (j := i) (k := xs[i].1) (p := z.2) (q := xs[i].2) (by rw [List.getElem?_eq_getElem (by omega), e2, ← e]) (by rw [hxi])
        omega
      refine dictSet_new (s := { s₂ with heap := h₄, toks := tk₅ }) hu (hxs₄.is _ (List.getElem_mem hlt)) hD₄ hKt hno (fun h₆ tk₆ hD₆ hs₆ => ?_) (by rw [copyK, List.length_map, List.length_take]; omega)
      refine ⟨xs.length + 1 - (i + 1), by omega, h₆, tk₆, i + 1, _, rfl, hlt, rfl, ⟨_, _, hs₆.extBut _ _ hID hI₄⟩, hn₄.sameBut hs₆ (Ne.symm hDC), ?_, fun c o e => hs₆.extBut c o (below c o e).2.2 (keep₄ c o e)⟩
      have e9 : copyK f (xs.take (i + 1)) = copyK f (xs.take i) ++ [(xs[i].1, xs[i].2.1, f xs[i])] := by
        rw [List.take_succ, hxi]; exact List.map_append
      rw [hD₆, e9]
    · have hin : i = xs.length := Nat.le_antisymm hi (Nat.not_lt.mp hlt)
      subst hin
      refine end_items (s := { s₂ with heap := h', toks := tk }) hh hit' hd' (by simp) fun h₂ hk₂ => ?_
      rw [List.take_length] at hD'
      dsimp only at hk₂ ⊢
      refine ⟨m', hn'.at' fun o e => hk₂ _ o (Ne.symm hIC) e, fun h'' hs'' => hQ₂ _ h'' _ (fun c o e => hs''.extBut c o (below c o e).2.1 (hk₂ c o (below c o e).1 (keep c o e))) hDn (by rw [hsz₂]; exact Nat.le_succ _) (hs''.extBut _ _ hDC (hk₂ _ _ (Ne.symm hID) hD'))⟩
  exact codeAny_compStart_dict (loop _ rfl) (kcp_self (s := { s₂ with heap := h₁, toks := s₂.toks + ([] : List (Str × Value)).length }) hI₁ (loop _ rfl))
end
end Mine
end
section
theorem Mine.off_Walk8 : True := by w_top off; exact True.intro
set_option maxRecDepth 100000
set_option linter.unusedVariables false
namespace Mine
open PySem PySem.W PySem.Spec PySem.Calls PyProof.Rows

section
variable {prog : Program} {w : World} {A : Around} {E : Value → Shared → Prop} {s : Shared} {h₀ : Heap} {L d : Addr} {m : Str → Option Value} {news : List (Addr × Obj)} {xs : Ents} {n : Nat} {R : Value → Shared → Prop}
theorem items_callN (F : Fr h₀ L s.heap m) (N : News h₀ L s.heap news) (hm : (d, dictK w xs n) ∈ news) (lo : (d == sysModules) = false)
    (h : ∀ h' v, h'.IsItemsView v d → Fr h₀ L h' m → News h₀ L h' news → (∀ a o, s.heap.get? a = some o → h'.get? a = some o) → R (.ref v) { s with heap := h' }) : wpAny (model prog w) A (call (.builtin "dict.items") [.ref d]) R E s :=
  call_meetsIn PySem.F.slot_dict_items (typeIs_dictK (N.get hm)) PySem.F.entry_dict_items (PySem.F.args_dict_items_1 _) (items_view (es := xs.map (entK w)) (n := n) lo) ⟨N.get hm, h _ _ ⟨_, Heap.get?_push_size _ rfl, rfl, rfl⟩ (F.push _) (fun p hp => ⟨Heap.get?_push_of_some _ (N p hp).1, (N p hp).2⟩) (fun a o e => Heap.get?_push_of_some _ e)⟩
theorem get_valueOf {K : Frag} {x dx : Addr} {t1 t2 t3 t4 t5 t6 : Tok} {xp xn xk xv xc : Value} {Q : Value → Shared → Prop} (X : K.In s.heap) (hx : s.heap.get? x = some (instObj 53 dx)) (hdx : s.heap.get? dx = some (nodeD w.params t1 t2 t3 t4 t5 t6 xp xn xk xv xc)) (hv : handedIn xv = true) (hg : plainGet K 53 "value" = true) (hh : hasDictIn K 53 = true)
    {attr : Option Value} (ha : findIn K (.ref 53) "value" = some attr) (hn : noGet K attr = true) (h : Q xv { s with toks := s.toks + 1 }) : wpAny (model prog w) A (getAttr (.ref x) (Str.ofString "value") true) Q E s :=
  get_value X ⟨hx, rfl, rfl, hdx⟩ (plainGet_of hg).1 (findObj_own hh ha hn rfl) hv h
end
theorem fillT : (PySem.Challenge.rw_bb0035_01 = PySem.Challenge.rw_bb0035_01) ∧ (hd.heap_39 = hd.heap_39) := by k_fill; exact ⟨rfl, rfl⟩

local macro_rules | `(tactic| k_ne) => `(tactic| first | (refine neN ?_; (try dsimp only); first | with_reducible assumption | exact Ne.symm (by with_reducible assumption) | exact ne_of_cls (by k_asm) (by k_mem) (by k_mem) (by dsimp only [tupOf, nodeD, cacheD, dictK, dictOf, instObj, W.listOf]; decide)))
local macro_rules | `(tactic| ktr_enter) => `(tactic| (refine' code_T ?k1 ?k2 ?k3 ?k4 ?k5 ?kA ?kF ?kK ?k6 ?k7 ?k8 ?k9 ?kB ?_ ?c2 ?c3 ?c4 ?c5; (case kA => exact rfl); (case kF => exact rfl); (case kK => assumption); (case k1 => k_asm); (case k2 => k_asm); (case k3 => k_asm); (case k4 => k_asm); (case k5 => k_asm); (case k6 => k_is); (case k7 => k_is); (case k8 => ktr_room); (case k9 => first | exact BindsTo.of_eq rfl | exact binds_K (by k_in) rfl (by k_is) rfl rfl rfl); (case c5 => decide); (case kB => exact locs rfl); (case c2 => exact rfl); (case c3 => exact rfl); (case c4 => exact rfl); k_whole; intro g' L' h' F' N' B' X' T' kk'; (try dsimp only); (try k_fold)))
local macro_rules | `(tactic| k_room) => `(tactic| ktr_room)
local macro_rules | `(tactic| k_units) => `(tactic| ktr_units)
local macro_rules | `(tactic| k_handed) => `(tactic| with_reducible assumption)
local macro_rules | `(tactic| walk_at "subscriptTail") => `(tactic| (k_here; (with_reducible show wpAny _ _ (subscriptTail _ _ (Value.ref _) _) _ _ _); k_dflt (refine' sub_key ?k1 ?k2 ?k3 ?k4 ?k5 ?k6 ?k7 ?k8 ?_; (case k1 => k_asm); (case k2 => k_asm); (case k3 => k_mem); (case k4 => k_asm); (case k5 => k_asm); (case k6 => k_asm); (case k7 => ktr_units); (case k8 => with_unfolding_all rfl); k_whole); intro tk9))
local macro_rules | `(tactic| walk_at "compareOp IsNot") => `(tactic| (k_here; (with_reducible show wpAny _ _ (compareOp CmpOp.IsNot _ Value.none) _ _ _); k_dflt (refine' isNot_key_none ?a ?_; (case a => with_reducible assumption); k_whole)))
local macro_rules | `(tactic| walk_at "compareOp Is") => `(tactic| (k_here; (with_reducible show wpAny _ _ (compareOp CmpOp.Is _ Value.none) _ _ _); k_dflt (refine' is_key_none ?a ?_; (case a => with_reducible assumption); k_whole)))
local macro_rules | `(tactic| walk_at "compareOp Is ref ref") => `(tactic| (k_here; (with_reducible show wpAny _ _ (compareOp CmpOp.Is (Value.ref _) (Value.ref _)) _ _ _); k_dflt (refine' is_ref_ne ?a ?b ?c ?d ?_; (case a => first | with_reducible assumption | exact Ne.symm (by with_reducible assumption)); (case b => first | exact News.get (by k_asm) (by k_mem) | exact Fr.keep (by k_asm) _ _ (by with_reducible assumption)); (case c => first | exact News.get (by k_asm) (by k_mem) | exact Fr.keep (by k_asm) _ _ (by with_reducible assumption)); (case d => intro q9; cases q9); k_whole)))
local macro_rules | `(tactic| walk_at "compareOp In") => `(tactic| (k_here; (with_reducible show wpAny _ _ (compareOp CmpOp.In _ (Value.ref _)) _ _ _); k_dflt (refine' in_keyN ?k1 ?k2 ?k3 ?k4 ?k5 ?k6 ?k7 _ ?k8 ?_; (case k1 => k_asm); (case k2 => k_asm); (case k3 => k_mem); (case k4 => k_asm); (case k5 => k_asm); (case k6 => k_asm); (case k7 => ktr_units); (case k8 => with_reducible assumption); k_whole); intro tk9))
local macro_rules | `(tactic| walk_at "call builtin:len") => `(tactic| (k_here; (with_reducible show wpAny _ _ (call (Value.builtin "len") [Value.ref _]) _ _ _); k_dflt (refine' len_keyN ?k1 ?k2 ?k3 ?k4 ?_; (case k1 => k_asm); (case k2 => k_mem); (case k3 => k_asm); (case k4 => first | with_reducible assumption | (simp only [List.length_append, List.length_cons, List.length_nil]; omega) | omega); k_whole); intro tk8 tk9))
local macro_rules | `(tactic| walk_at "getMethod ref") => `(tactic| (k_here; (with_reducible show wpAny _ _ (getMethod (Value.ref _) (Str.ofString "get") _) _ _ _); k_dflt (refine' methodN ?k1 ?k2 PySem.F.slot_dict_get PySem.F.type_dict_get ?_; (case k1 => k_asm); (case k2 => k_mem); k_whole)))
local macro_rules | `(tactic| walk_at "getMethod ref") => `(tactic| (k_here; (with_reducible show wpAny _ _ (getMethod (Value.ref _) (Str.ofString "pop") _) _ _ _); k_dflt (refine' methodN ?k1 ?k2 PySem.F.slot_dict_pop PySem.F.type_dict_pop ?_; (case k1 => k_asm); (case k2 => k_mem); k_whole)))
local macro_rules | `(tactic| walk_at "getMethod ref") => `(tactic| (k_here; (with_reducible show wpAny _ _ (getMethod (Value.ref _) (Str.ofString "cleanup") _) _ _ _); k_dflt (refine' kmu_own ?k1 ?k2 ?k3 ?k4 ?k5 ?_; (case k1 => k_asm); (case k2 => k_asm); (case k3 => k_inst); (case k4 => k_is); (case k5 => k_is); k_whole)))
local macro_rules | `(tactic| walk_at "call builtin:dict.get") => `(tactic| (k_here; (with_reducible show wpAny _ _ (call (Value.builtin _) [Value.ref _, _, _]) _ _ _); k_dflt (refine' get2_keyN ?k1 ?k2 ?k3 ?k4 ?k5 ?k6 ?k7 ?k8 ?_; (case k1 => k_asm); (case k2 => k_asm); (case k3 => k_mem); (case k4 => k_asm); (case k5 => k_asm); (case k6 => k_asm); (case k7 => ktr_units); (case k8 => k_asm); k_whole); intro tk9; (try dsimp only [Option.getD])))
local macro_rules | `(tactic| walk_at "call builtin:dict.pop") => `(tactic| (k_here; (with_reducible show wpAny _ _ (call (Value.builtin _) [Value.ref _, _]) _ _ _); k_dflt (refine' pop_keyN ?k1 ?k2 ?k3 ?k4 ?k5 ?k6 ?k7 ?k8 ?_; (case k1 => k_asm); (case k2 => k_asm); (case k3 => k_upd); (case k4 => k_asm); (case k5 => k_asm); (case k6 => ktr_units); (case k7 => k_asm); (case k8 => k_asm); k_whole); intro h9 tk9 F' N'; (try k_sweep)))
local macro_rules | `(tactic| walk_at "setItem ref") => `(tactic| (k_here; (with_reducible show wpAny _ _ (setItem (Value.ref _) _ _) _ _ _); k_dflt (refine' setItem_keyN ?k1 ?k2 ?k3 ?k4 ?k5 ?k6 ?k7 ?k8 ?_; (case k1 => k_asm); (case k2 => k_asm); (case k3 => k_upd); (case k4 => k_asm); (case k5 => k_asm); (case k6 => ktr_units); (case k7 => k_asm); (case k8 => k_asm); k_whole); intro h9 tk9 F' N'; (try k_sweep)))

local macro_rules | `(tactic| walk_at "call builtin:dict.items") => `(tactic| (k_here; (with_reducible show wpAny _ _ (call (Value.builtin "dict.items") [Value.ref _]) _ _ _); k_dflt (refine' items_callN ?k1 ?k2 ?k3 ?k4 ?_; (case k1 => k_asm); (case k2 => k_asm); (case k3 => k_mem); (case k4 => k_asm); k_whole); intro h9 v9 hv9 F9 N9 kp9))

local macro_rules | `(tactic| walk_at "getMethod ref") => `(tactic| (k_here; (with_reducible show wpAny _ _ (getMethod (Value.ref _) (Str.ofString "items") _) _ _ _); k_dflt (refine' methodN ?k1 ?k2 PySem.F.slot_dict_items PySem.F.type_dict_items ?_; (case k1 => k_asm); (case k2 => k_mem); k_whole)))

section
variable {prog : Program} {w : World} {p : Program} {loose : List Str} {mean : ExcName → Option Value} {mg mb : Str → Option Value}

set_option maxHeartbeats 4000000 in
theorem it_call {dp un : Nat} {gd : Option (List Code)} {cn : Str} {cs : Scope} {a : Addr} {ccd : Value} {cl : List (Str × Addr)} {outer : List Env} {A₀ : Around} {base h₀ : Heap} {L : Addr} {m : Str → Option Value} {s : Shared} {Q E : Value → Shared → Prop}
    {tc1 tc2 tc3 tc4 tc5 : Tok} {c dc d : Addr} {mx af : Value} {xs : Ents} {n : Nat} {mru lru : Value} (f : Key × Value × Value → Value)
    (B : Below A₀ base outer h₀) (F : Fr h₀ L s.heap m) (X : (hd.heap_39 w.params).In h₀) (T : Top p loose mean mg mb h₀) (hk : cs.kind = .function) (hd : dp + 30 < recursionLimit) (hu : un + 300 < cLine) (hn : [c, dc, d].Nodup)
    (hx : Keyed prog w s.heap xs) (hd0 : (d == sysModules) = false) (hsz : xs.length ≤ sizeLine)
    (hnode : ∀ e ∈ xs, ∃ x dx t1 t2 t3 t4 t5 t6 xp xn xk xc, e.2.2 = .ref x ∧ x ∉ [c, dc, d] ∧ dx ∉ [c, dc, d] ∧ s.heap.get? x = some (instObj 53 dx) ∧ s.heap.get? dx = some (nodeD w.params t1 t2 t3 t4 t5 t6 xp xn xk (f e) xc) ∧ handedIn (f e) = true)
    (N : News h₀ L s.heap [(c, instObj 189 dc), (dc, cacheD w.params tc1 tc2 tc3 tc4 tc5 (.ref d) mru lru mx af), (d, dictK w xs n)])
    (ret : ∀ h' tk' D, Fr h₀ L h' m → News h₀ L h' [(D, dictK w (copyK f xs) xs.length), (c, instObj 189 dc), (dc, cacheD w.params tc1 tc2 tc3 tc4 tc5 (.ref d) mru lru mx af), (d, dictK w xs n)] → Keep s.heap h' [c, dc, d] → NewIn s.heap [(D, dictK w (copyK f xs) xs.length), (c, instObj 189 dc), (dc, cacheD w.params tc1 tc2 tc3 tc4 tc5 (.ref d) mru lru mx af), (d, dictK w xs n)] [c, dc, d] → D ∉ [c, dc, d] → (D == sysModules) = false → Q (.ref D) { s with heap := h', toks := tk' }) :
    wpAny (model prog w) (ktrTop dp un gd cn cs L a ccd cl outer) (call (.ref 128) [.ref c]) Q E s := by
  have hn0 := hn
  simp only [List.nodup_cons, List.mem_cons, List.not_mem_nil, or_false, not_or, List.nodup_nil, not_false_eq_true, and_true] at hn
  obtain ⟨⟨n_0_1, n_0_2⟩, n_1_2⟩ := hn
  refine wpAny_call ?_
  k_dflt ktr_enter
  rename_i g' L' h' F' N' B' X' T' kk'
  k_steps
  have hx9 : Keyed prog w h' xs := lift_keyed hx kk' N (by simp only [List.forall_mem_cons]; simp) |>.keeps F'.keep
  have hnode9 : ∀ e ∈ xs, ∃ x dx t1 t2 t3 t4 t5 t6 xp xn xk xc, e.2.2 = .ref x ∧ h'.get? x = some (instObj 53 dx) ∧ h'.get? dx = some (nodeD w.params t1 t2 t3 t4 t5 t6 xp xn xk (f e) xc) ∧ handedIn (f e) = true := fun e he => by
    obtain ⟨x, dx, t1, t2, t3, t4, t5, t6, xp, xn, xk, xc, e1, e2, e3, e4, e5, e6⟩ := hnode e he
    exact ⟨x, dx, t1, t2, t3, t4, t5, t6, xp, xn, xk, xc, e1, F'.keep _ _ (kk' _ _ e4 e2), F'.keep _ _ (kk' _ _ e5 e3), e6⟩
  have X8 := X'.keeps F'.keep
  k_dflt (refine dc_comp f ?a1 ?a2 (by rfl) (by decide) (by rfl) (by decide) (by rfl) (by rfl) (by decide) (by decide) (by decide) ?a3)
  case a1 => rfl
  case a2 => ktr_units
  case a3 =>
    k_steps
    rename_i h9 v9 hv9 F9 N9 kp9
    unfold held
    refine wpAny_pure ?_
    refine ⟨_, d, xs, n, rfl, hv9, (N9 (d, _) (by simp)).1, hx9.keeps kp9, hsz, ?_, ?_⟩
    · intro C s₃ m₃ E' e he hn3 hm3 hk3
      obtain ⟨x, dx, t1, t2, t3, t4, t5, t6, xp, xn, xk, xc, e1, e2, e3, e6⟩ := hnode9 e he
      rw [e1] at hm3
      refine Attribute_name ?_
      refine wpAny_Name (wpAny_loadName_local (by rfl) (by rfl) hn3 hm3 ?_) (by decide)
      refine get_valueOf (K := Mine.hd.heap_39 w.params) (X8.keeps fun b o g => hk3 b o (kp9 b o g)) (hk3 _ _ (kp9 _ _ e2)) (hk3 _ _ (kp9 _ _ e3)) e6 (by k_is) (by k_is) (by k_is) (by k_is) ?_
      exact ⟨rfl, _, rfl⟩
    · intro D hD tkD kpD nD szD gD
      have hsys : (D == sysModules) = false := by
        have h1 := modules_low (Top.nolimit T')
        have h2 : g'.objs.size ≤ h9.objs.size := Nat.le_of_lt (Nat.lt_of_le_of_lt F9.above F9.ns.lt)
        exact beq_eq_false_iff_ne.mpr (Nat.ne_of_gt (Nat.lt_of_lt_of_le h1 (Nat.le_trans h2 szD)))
      have F10 := F9.keeps kpD
      have hDL : D ≠ L' := fun e => by
        obtain ⟨oC, heC, _⟩ := LCg.ns_obj F9.ns
        rw [e] at nD
        rw [show h9.get? L' = none from nD] at heC
        cases heC
      have hD0 : g'.get? D = none := by
        cases q : g'.get? D with
        | none => rfl
        | some o => have := F9.keep _ _ q; rw [show h9.get? D = none from nD] at this; cases this
      have hDads : D ∉ [c, dc, d] := by
        intro hm
        simp only [List.mem_cons, List.not_mem_nil, or_false] at hm
        rcases hm with rfl | rfl | rfl
        · have := (N9 (D, _) (.head _)).1; rw [show h9.get? D = none from nD] at this; cases this
        · have := (N9 (D, _) (.tail _ (.head _))).1; rw [show h9.get? D = none from nD] at this; cases this
        · have := (N9 (D, _) (.tail _ (.tail _ (.head _)))).1; rw [show h9.get? D = none from nD] at this; cases this
      have N10 : News g' L' hD ((D, dictK w (copyK f xs) xs.length) :: _) := List.forall_mem_cons.mpr ⟨⟨gD, hDL, hD0⟩, fun q hq => ⟨kpD _ _ (N9 q hq).1, (N9 q hq).2⟩⟩
      clear F9 N9 F'
      k_steps
      try dsimp only
      try (k_unfold; try dsimp only)
      exact ⟨_, _, _, F10, N10, fun kF kN kk kf => ret _ _ D kF kN kk kf hDads hsys⟩
end
end Mine
end
section
set_option maxRecDepth 100000
set_option linter.unusedVariables false
namespace Mine
open PySem PySem.W PySem.Spec PySem.Calls PyProof.Rows
/-- what a cache holds under a key -/
def valOf (recs : List Rec) (q : Key) : Value := match recs.find? fun r => decide (r.key = q) with
  | some r => .int r.i r.vt
  | none => .none
theorem valOf_handed (recs : List Rec) (q : Key) : handedIn (valOf recs q) = true := by
  unfold valOf
  cases recs.find? fun r => decide (r.key = q) <;> rfl
theorem valOf_mem {recs : List Rec} (hn : (recs.map (·.key)).Nodup) {r : Rec} (hr : r ∈ recs) : valOf recs r.key = .int r.i r.vt := by
  induction recs with
  | nil => cases hr
  | cons x R ih =>
    rw [List.map_cons, List.nodup_cons] at hn
    unfold valOf at *
    rcases List.mem_cons.mp hr with rfl | hr
    · simp
    · have : x.key ≠ r.key := fun e => hn.1 (by rw [e]; exact List.mem_map.mpr ⟨r, hr, rfl⟩)
      rw [List.find?_cons_of_neg (by simpa using this)]
      exact ih hn.2 hr
theorem Seg.node {P : Params} {h : Heap} {p n : Value} {A : List Rec} (x : Seg P h p A n) : ∀ r ∈ A, ∃ pv nk, NodeAt P h r pv nk := by
  induction A generalizing p with
  | nil => nofun
  | cons r A ih =>
    intro q hq
    rcases List.mem_cons.mp hq with rfl | hq
    · exact ⟨_, _, x.1⟩
    · exact ih x.2 q hq
section
variable {prog : Program} {w : World} {p : Program} {loose : List Str} {mean : ExcName → Option Value} {mg mb : Str → Option Value}
  {dp un : Nat} {gd : Option (List Code)} {cn : Str} {cs : Scope} {a : Addr} {ccd : Value} {cl : List (Str × Addr)} {outer : List Env} {A₀ : Around} {base h₀ : Heap} {L : Addr} {m : Str → Option Value} {s : Shared} {Q E : Value → Shared → Prop}
  {ow : Addr → Nat} {k : Nat} {M : Int} {gk c dc d : Addr}
/-- the entries of a cache's dict are its nodes -/
theorem CacheAt.entry {h : Heap} {recs : List Rec} (C : CacheAt prog w h ow k h₀ L M gk c dc d recs) {xs : Ents} (e2 : Keyed prog w h xs) (e4 : xs.length = recs.length) (e5 : ∀ r ∈ recs, look xs r.key = some (.ref r.x)) {e : Key × Value × Value} (he : e ∈ xs) : ∃ r ∈ recs, e.1 = r.key ∧ e.2.2 = .ref r.x := by
  have hk : e.1 ∈ keysOf xs := List.mem_map.mpr ⟨e, he, rfl⟩
  obtain ⟨r, hr, er⟩ := List.mem_map.mp ((C.keysOf_iff e4 e5 e.1).mp hk)
  obtain ⟨i, hi, ei⟩ := List.mem_iff_getElem.mp he
  have h1 := look_of_get e2.nodup (i := i) (k := e.1) (p := e.2) (by rw [List.getElem?_eq_getElem hi, ei])
  have h2 := e5 r hr
  rw [er, h1] at h2
  exact ⟨r, hr, er.symm, Option.some.inj h2⟩
theorem C_items {recs : List Rec}
    (B : Below A₀ base outer h₀) (F : Fr h₀ L s.heap m) (X : (hd.heap_39 w.params).In h₀) (T : Top p loose mean mg mb h₀) (hk : cs.kind = .function) (hd : dp + 30 < recursionLimit) (hu : un + 300 < cLine) (hk98 : k ≠ 98)
    (C : CacheAt prog w s.heap ow k h₀ L M gk c dc d recs)
    (ret : ∀ h' tk' D ys, Fr h₀ L h' m → CacheAt prog w h' ow k h₀ L M gk c dc d recs → Keep s.heap h' (c :: dc :: d :: adr recs) → s.heap.get? D = none → D ≠ L → h₀.get? D = none → (D == sysModules) = false →
      h'.get? D = some (dictK w ys ys.length) → Keyed prog w h' ys → ys.length = recs.length → (∀ q, q ∈ keysOf ys ↔ q ∈ recs.map (·.key)) → (∀ r ∈ recs, look ys r.key = some (.int r.i r.vt)) → Q (.ref D) { s with heap := h', toks := tk' }) :
    wpAny (model prog w) (ktrTop dp un gd cn cs L a ccd cl outer) (call (.ref 128) [.ref c]) Q E s := by
  obtain ⟨tc1, tc2, tc3, tc4, tc5, tm, ta, hdc⟩ := C.dict
  obtain ⟨xs, n, hdd, hxs, hxo, hxl, hxk⟩ := C.ents
  have hsm := C.small
  have hnd := C.nodup
  refine it_call (fun e => valOf recs e.1) B F X T hk hd hu C.nd3 hxs C.sysd (by unfold sizeLine; omega) (fun e he => ?_)
    (news_cons (C.new F (by simp) C.inst) (news_cons (C.new F (by simp) hdc) (news_cons (C.new F (by simp) hdd) news_nil))) (fun h' tk' D F' N' K' Z' hDn hsys => ?_)
  · obtain ⟨r, hr, e1, e2⟩ := C.entry hxs hxl hxk he
    obtain ⟨pv, nk, h1, t1, t2, t3, t4, t5, t6, h2⟩ := C.seg.node r hr
    have o1 := off_of_nodup (ads := [c, dc, d]) hnd
    refine ⟨r.x, r.dx, t1, t2, t3, t4, t5, t6, pv, nk, r.kv, .ref r.f, e2, o1 _ (mem_adr.mpr ⟨r, hr, .inl rfl⟩), o1 _ (mem_adr.mpr ⟨r, hr, .inr rfl⟩), h1, ?_, valOf_handed _ _⟩
    rw [e1, valOf_mem C.nodupK hr]
    exact h2
  · have hT : ∀ b ∈ [c, dc, d], b ∈ c :: dc :: d :: adr recs := by simp
    have hDz : s.heap.get? D = none := (Z' _ (.head _)).resolve_left hDn
    have C' := C.reform hk98 K' hT (.refl _) (N' _ (.tail _ (.head _))).1 ⟨_, _, _, _, _, _, _, (N' _ (.tail _ (.tail _ (.head _)))).1⟩ ((N' _ (.tail _ (.tail _ (.tail _ (.head _))))).1.trans hdd.symm) (C.seg.keep fun b hb o e => K' b o e (off_of_nodup (ads := [c, dc, d]) C.nodup b hb))
    have gD := (N' _ (.head _)).1
    refine ret _ _ D (copyK (fun e => valOf recs e.1) xs) F' C' (K'.weaken hT) hDz (N' _ (.head _)).2.1 (N' _ (.head _)).2.2 hsys (by rw [show (copyK (fun e => valOf recs e.1) xs).length = xs.length from List.length_map _]; exact gD) ?_ ((List.length_map _).trans hxl) (fun q => ?_) (fun r hr => ?_)
    · refine ⟨fun z hz => ?_, by rw [keysOf_copyK]; exact hxs.nodup⟩
      obtain ⟨z', hz', rfl⟩ := List.mem_map.mp hz
      exact (IsKeyW.keep ⟨hxs.is z' hz', hxo z' hz'⟩ (KeepW.of K' (C.owns hT)) hk98).1
    · rw [keysOf_copyK]; exact C.keysOf_iff hxl hxk q
    · obtain ⟨z, hz, e⟩ := List.mem_map.mp ((C.keysOf_iff hxl hxk r.key).mpr (List.mem_map.mpr ⟨r, hr, rfl⟩))
      obtain ⟨i, hi, ei⟩ := List.mem_iff_getElem.mp hz
      have := look_of_get (xs := copyK (fun e => valOf recs e.1) xs) (by rw [keysOf_copyK]; exact hxs.nodup) (i := i) (k := r.key) (p := (z.2.1, valOf recs z.1)) (by
        unfold copyK
        rw [List.getElem?_map, List.getElem?_eq_getElem hi, ei]
        simp [e])
      rw [this, e, valOf_mem C.nodupK hr]
end
end Mine
end
section
set_option maxRecDepth 100000
set_option linter.unusedVariables false
namespace Mine
open PySem PySem.W PySem.Spec PySem.Calls PyProof.Rows
section
variable {prog : Program} {w : World} {A : Around} {E : Value → Shared → Prop} {s : Shared} {a b : Addr} {xs ys : Ents} {n n' : Nat}
/-- two dicts with the same ints under the same keys -/
theorem same_dicts {nm : String} {Q : Bool → Shared → Prop} (hu : A.units < cLine) (ha : (a == sysModules) = false) (hb : (b == sysModules) = false) (hoa : s.heap.get? a = some (dictK w xs n)) (hob : s.heap.get? b = some (dictK w ys n'))
    (hx : Keyed prog w s.heap xs) (hy : Keyed prog w s.heap ys) (hl : xs.length = ys.length) (hv : ∀ e ∈ xs, ∃ i t u, e.2.2 = .int i t ∧ look ys e.1 = some (.int i u)) (h : Q true s) :
    wpAny (model prog w) A (Builtin.Dict.samePairs nm a b) Q E s := by
  unfold Builtin.Dict.samePairs Builtin.Dict.showsAll
  rw [if_neg (show ¬ (a == sysModules) = true by rw [ha]; exact Bool.false_ne_true), if_neg (show ¬ (b == sysModules) = true by rw [hb]; exact Bool.false_ne_true)]
  refine wpAny_bind (wpAny_pure (wpAny_bind (wpAny_pure ?_)))
  refine wpAny_bind (wpAny_dictEntries hoa rfl ?_)
  dsimp only
  refine wpAny_bind (wpAny_dictEntries hob rfl ?_)
  rw [if_neg (by simp [hl])]
  refine wpAny_bind (wpAny_dictEpoch hoa rfl ?_)
  refine wpAny_bind ?_
  rw [Std.Legacy.Range.forIn_eq_forIn_range']
  simp only [Std.Legacy.Range.size, Nat.sub_zero, Nat.add_sub_cancel, Nat.div_one, List.size_toArray, List.length_map]
  refine wpAny_forIn_list _
    (fun rest q s' => s' = s ∧ q = (none, ()) ∧ ∃ i, rest = List.range' i (xs.length - i) ∧ i ≤ xs.length)
    _ ?_ ?_ _ _ ⟨rfl, rfl, 0, by simp, Nat.zero_le _⟩
  · rintro x rest q s' ⟨rfl, rfl, i, hr, hi⟩
    have hlt : i < xs.length := by
      rcases Nat.lt_or_ge i xs.length with h | h
      · exact h
      · rw [Nat.sub_eq_zero_of_le h] at hr; simp at hr
    obtain ⟨rfl, hrest⟩ : x = i ∧ rest = List.range' (i + 1) (xs.length - (i + 1)) := by
      have e : xs.length - i = (xs.length - (i + 1)) + 1 := by omega
      rw [e, List.range'_succ] at hr
      injection hr with h1 h2
      exact ⟨h1, h2⟩
    refine wpAny_bind (wpAny_dictEntries hoa rfl ?_)
    have hxi : xs[x]? = some xs[x] := List.getElem?_eq_getElem hlt
    rw [entK_at x, hxi]
    obtain ⟨j, t, u, e1, e2⟩ := hv xs[x] (List.getElem_mem hlt)
    show wpAny _ _ (holding [xs[x].2.1, xs[x].2.2] _ >>= _) _ _ _
    refine wpAny_bind (wpAny_holding (wpAny_bind (dictFind_key hu (hx.is _ (List.getElem_mem hlt)) hob rfl hy (fun hno => ?_) fun j' p hj => ?_)))
    · rw [look_none_of_get hno] at e2; cases e2
    · refine wpAny_bind (wpAny_dictEntries hob rfl ?_)
      rw [entK_at j', hj]
      have e3 := look_of_get hy.nodup hj
      rw [e2] at e3
      have e4 : p.2 = .int j u := (Option.some.inj e3).symm
      show wpAny _ _ (holding [p.2] (eqBool xs[x].2.2 p.2)) _ _ _
      rw [e1, e4]
      refine wpAny_holding (wpAny_eqBool_int ?_)
      rw [show (j == j) = true from beq_self_eq_true j, if_neg (by decide)]
      refine wpAny_bind (wpAny_dictEpoch hoa rfl ?_)
      rw [if_neg (by simp)]
      exact wpAny_pure ⟨rfl, rfl, x + 1, hrest, hlt⟩
  · rintro q s' ⟨rfl, rfl, i, hr, hi⟩
    exact wpAny_pure h
theorem ne_dicts {Q : Value → Shared → Prop} (hu : A.units + 1 < cLine) (ha : (a == sysModules) = false) (hb : (b == sysModules) = false) (hoa : s.heap.get? a = some (dictK w xs n)) (hob : s.heap.get? b = some (dictK w ys n'))
    (hx : Keyed prog w s.heap xs) (hy : Keyed prog w s.heap ys) (hl : xs.length = ys.length) (hv : ∀ e ∈ xs, ∃ i t u, e.2.2 = .int i t ∧ look ys e.1 = some (.int i u)) (h : Q (.bool false) s) :
    wpAny (model prog w) A (compareOp .NotEq (.ref a) (.ref b)) Q E s := by
  have da := typeIs_dictK (s := s) hoa
  have db := typeIs_dictK (s := s) hob
  refine wpAny_richCompare_same_room (op := .NotEq) da db PySem.F.slot_dict_ne (wpAny_call_entry PySem.F.slot_dict_ne da PySem.F.entry_dict_ne ?_ (PySem.F.args_dict_ne_2 _ _)) (Nat.lt_of_succ_lt hu)
  show wpAny _ _ (Builtin.Dict.dictSlotArgs "__ne__" ⟨[.ref a, .ref b], []⟩ >>= _) _ _ s
  refine wpAny_bind ?_
  unfold Builtin.Dict.dictSlotArgs
  refine wpAny_bind (wpAny_notOrdered_dict da ?_)
  show wpAny _ _ (pure (Value.ref a, Value.ref b)) _ _ s
  refine wpAny_pure ?_
  refine wpAny_bind (wpAny_isInstance (T := "dict") db PySem.F.sub_dict_dict ?_)
  simp only [Bool.not_true, Bool.false_eq_true, if_false]
  refine wpAny_bind (wpAny_pure (wpAny_bind (wpAny_pure ?_)))
  refine wpAny_bind (same_dicts ?hh ha hb hoa hob hx hy hl hv ?_)
  case hh => exact hu
  refine wpAny_pure ⟨_, rfl, ?_, ?_⟩
  · exact fun x => nomatch x
  · simpa using h
end
end Mine
end
section
set_option maxRecDepth 100000
set_option linter.unusedVariables false
namespace Mine
open PySem PySem.W PySem.Spec PySem.Calls PyProof.Rows PySem.SeqAt

/-! lists of mixed keys -/
theorem IsKey.any {prog prog' : Program} {w w' : World} {h : Heap} {k : Key} {v : Value} (x : IsKey prog w h k v) : IsKey prog' w' h k v := by
  cases x with
  | int i t => exact .int i t
  | str x t => exact .str x t
  | bytes b t => exact .bytes b t
  | tup y =>
    obtain ⟨o, items, n, ho, hc, hd, r⟩ := y
    refine .tup ⟨o, items, n, ho, hc, hd, ?_⟩
    have go : ∀ {is : List Int} {l : List Value}, ItemsAre (intKind prog w) is l → ItemsAre (intKind prog' w') is l := fun {is l} r => by
      induction r with
      | nil => exact .nil
      | cons h _ ih => exact .cons h ih
    exact go r
theorem eqAt_keys {prog : Program} {w : World} {A : Around} {s : Shared} {a b : Key} {u v : Value} (hu : A.units < cLine) (x : IsKey prog w s.heap a u) (y : IsKey prog w s.heap b v) : EqAt A s u v (decide (a = b)) :=
  fun prog' w' E Q h => eqAt_key (prog := prog') (w := w') hu x.any y.any h

abbrev KeyL := List (Key × Value)
def valsOf (rs : KeyL) : List Value := rs.map (·.2)
def KeysL (prog : Program) (w : World) (h : Heap) (rs : KeyL) : Prop := ∀ p ∈ rs, IsKey prog w h p.1 p.2
/-- is the value one of the key's -/
noncomputable def isFor (rs : KeyL) (kx : Key) (y : Value) : Bool := @decide (∃ p ∈ rs, p.2 = y ∧ p.1 = kx) (Classical.propDecidable _)
section
variable {prog : Program} {w : World} {A : Around} {E : Value → Shared → Prop} {s : Shared} {rs : KeyL} {kx : Key} {key : Value} {l : Addr} {n : Nat}
theorem isFor_eq {h : Heap} (hr : KeysL prog w h rs) {p : Key × Value} (hp : p ∈ rs) : isFor rs kx p.2 = decide (p.1 = kx) := by
  unfold isFor
  by_cases e : p.1 = kx
  · rw [decide_eq_true e]
    exact @decide_eq_true _ (Classical.propDecidable _) ⟨p, hp, rfl, e⟩
  · rw [decide_eq_false e]
    refine @decide_eq_false _ (Classical.propDecidable _) fun ⟨q, hq, e1, e2⟩ => e ?_
    have := hr q hq
    rw [e1] at this
    exact ((hr p hp).inj this).trans e2
theorem eqAt_isFor (hu : A.in1.units < cLine) (hr : KeysL prog w s.heap rs) (hk : IsKey prog w s.heap kx key) : ∀ y, y ∈ (valsOf rs).toArray → EqAt A.in1 s y key (isFor rs kx y) := fun y hy => by
  obtain ⟨p, hp, rfl⟩ := List.mem_map.mp (List.mem_toArray.mp hy)
  rw [isFor_eq hr hp]
  exact eqAt_keys hu (hr p hp) hk
theorem any_isFor {h : Heap} (hr : KeysL prog w h rs) : (valsOf rs).toArray.any (isFor rs kx) = decide (kx ∈ rs.map (·.1)) := by
  rw [← Array.any_toList]
  by_cases e : kx ∈ rs.map (·.1)
  · rw [decide_eq_true e]
    obtain ⟨p, hp, ep⟩ := List.mem_map.mp e
    exact List.any_eq_true.mpr ⟨p.2, List.mem_map.mpr ⟨p, hp, rfl⟩, by rw [isFor_eq hr hp]; exact decide_eq_true ep⟩
  · rw [decide_eq_false e]
    refine Bool.eq_false_iff.mpr fun q => e ?_
    obtain ⟨y, hy, ey⟩ := List.any_eq_true.mp q
    obtain ⟨p, hp, rfl⟩ := List.mem_map.mp hy
    rw [isFor_eq hr hp] at ey
    exact List.mem_map.mpr ⟨p, hp, of_decide_eq_true ey⟩
theorem in_listK {Q : Value → Shared → Prop} (hu : A.in1.units < cLine) (hl : s.heap.get? l = some (listOf (valsOf rs).toArray n)) (hr : KeysL prog w s.heap rs) (hk : IsKey prog w s.heap kx key) (h : Q (.bool (decide (kx ∈ rs.map (·.1)))) s) :
    wpAny (model prog w) A (compareOp .In key (.ref l)) Q E s :=
  in_listAt (isFor rs kx) ⟨_, hl, rfl, _, rfl⟩ (eqAt_isFor hu hr hk) (by rw [any_isFor hr]; exact h)
theorem place_isFor {h : Heap} {P S : KeyL} {v : Value} (hr : KeysL prog w h (P ++ (kx, v) :: S)) (hno : kx ∉ P.map (·.1)) :
    ∃ hj : P.length < (valsOf (P ++ (kx, v) :: S)).toArray.size, isFor (P ++ (kx, v) :: S) kx (valsOf (P ++ (kx, v) :: S)).toArray[P.length] = true ∧
      ∀ m (hm : m < (valsOf (P ++ (kx, v) :: S)).toArray.size), m < P.length → isFor (P ++ (kx, v) :: S) kx (valsOf (P ++ (kx, v) :: S)).toArray[m] = false := by
  have hl : (valsOf (P ++ (kx, v) :: S)).length = P.length + (S.length + 1) := by simp [valsOf]
  refine ⟨by rw [List.size_toArray, hl]; omega, ?_, fun m hm hlt => ?_⟩
  · have e : (valsOf (P ++ (kx, v) :: S)).toArray[P.length]'(by rw [List.size_toArray, hl]; omega) = v := by simp [valsOf]
    rw [e, show v = (kx, v).2 from rfl, isFor_eq hr (p := (kx, v)) (by simp)]
    simp
  · have e : (valsOf (P ++ (kx, v) :: S)).toArray[m] = (P[m]'hlt).2 := by simp [valsOf, hlt]
    rw [e, isFor_eq hr (List.mem_append_left _ (List.getElem_mem hlt))]
    exact decide_eq_false fun q => hno (List.mem_map.mpr ⟨_, List.getElem_mem hlt, q⟩)
theorem index_listK {P S : KeyL} {v : Value} {Q : Value → Shared → Prop} (hu : A.in1.units < cLine) (hl : s.heap.get? l = some (listOf (valsOf (P ++ (kx, v) :: S)).toArray n)) (hr : KeysL prog w s.heap (P ++ (kx, v) :: S)) (hk : IsKey prog w s.heap kx key)
    (hno : kx ∉ P.map (·.1)) (hsm : P.length < 1000) (h : ∀ t tk, Q (.int P.length t) { s with toks := tk }) : wpAny (model prog w) A (call (.builtin "list.index") [.ref l, key]) Q E s := by
  obtain ⟨a, b, c⟩ := place_isFor hr hno
  exact call_meets PySem.F.slot_list_index ⟨_, hl, rfl⟩ PySem.F.entry_list_index (PySem.F.args_list_index_2 _ _)
    (list_indexAt l _ n none #[] key (isFor (P ++ (kx, v) :: S) kx) P.length a (by omega) b c) ⟨hl, eqAt_isFor hu hr hk, h _ _⟩
end
section
open AutoSeq1 (wpAny_loadPart')
open MeetsSeq MeetsSeq2 MeetsSeq3 SeqRoads2
theorem remove_loopK (l : Addr) (items : Array Value) (n : Nat) (x : Value) (e : Value → Bool) (j : Nat) (hj : j < items.size) (hit : e items[j] = true) (k : Nat) (hs1 : items.size ≤ sizeLine) :
    ∀ i : Nat, j - i = k → i ≤ j → (∀ m (hm : m < items.size), i ≤ m → m < j → e items[m] = false) → Meets (Builtin.«list.remove.loop» ⟨[.ref l, x, rawInt i], []⟩)
      (fun A R s => s.heap.get? l = some { cls := .type "list", dict := none, data := .seq items n, slots := #[] } ∧ (∀ y, y ∈ items → EqAt A.in1 s y x (e y)) ∧ R (.ok (.ret .none)) { s with heap := s.heap.update l (Obj.mapSeq fun xs => xs.eraseIdxIfInBounds j) }) := by
  induction k with
  | zero =>
    intro i hk hij hno prog w A R s h
    obtain ⟨hp, g, d, tk, os⟩ := s; obtain ⟨hl, he, h⟩ := h
    have hij' : i = j := by omega
    subst hij'
    wp_walk using wpAny_loadPart' hl
    have hi : items[((i : Nat) : Int).toNat]? = some items[i] := by simp [hj]
    rw [hi]
    refine wpAny_bind (he _ (Array.getElem_mem hj) prog w _ _ ?_)
    rw [hit]
    have hz' : (items.eraseIdxIfInBounds i).size ≤ sizeLine + 1 := Nat.le_trans (size_erased items _) (Nat.le_succ_of_le hs1)
    wp_walk using (wpAny_updateSeq hl rfl (hz := hs1) (_hz' := hz')), wpAny_loadPart' hl
    simpa using h
  | succ k ih =>
    intro i hk hij hno prog w A R s h
    obtain ⟨hp, g, d, tk, os⟩ := s; obtain ⟨hl, he, h⟩ := h
    have hlt : i < items.size := by omega
    wp_walk using wpAny_loadPart' hl
    have hi : items[((i : Nat) : Int).toNat]? = some items[i] := by simp [hlt]
    have hc : ((i : Int) + 1) = ((i + 1 : Nat) : Int) := by push_cast; rfl
    rw [hi]
    refine wpAny_bind (he _ (Array.getElem_mem hlt) prog w _ _ ?_)
    rw [hno i hlt (Nat.le_refl _) (by omega)]
    wp_walk
    rw [hc]
    exact ⟨plainId_quiet plain_remove_loop _, codeAny_builtin entry_remove_loop (by
      rw [Around.under_plainId plain_remove_loop _]
      exact ih (i + 1) (by omega) (by omega) (fun m hm h1 h2 => hno m hm (by omega) h2) prog w A R _ ⟨hl, he, h⟩)⟩
theorem list_removeK (l : Addr) (items : Array Value) (n : Nat) (x : Value) (e : Value → Bool) (j : Nat) (hj : j < items.size)
    (hit : e items[j] = true) (hno : ∀ m (hm : m < items.size), m < j → e items[m] = false) (hs1 : items.size ≤ sizeLine) :
    Meets (Builtin.«list.remove» ⟨[.ref l, x], []⟩)
      (fun A R s => s.heap.get? l = some { cls := .type "list", dict := none, data := .seq items n, slots := #[] } ∧ (∀ y, y ∈ items → EqAt A.in1 s y x (e y)) ∧ R (.ok (.ret .none)) { s with heap := s.heap.update l (Obj.mapSeq fun xs => xs.eraseIdxIfInBounds j) }) := by
  intro prog w A R s h
  obtain ⟨hp, g, d, tk, os⟩ := s; obtain ⟨hl, he, h⟩ := h
  wp_walk using wpAny_loadPart' hl
  exact ⟨plainId_quiet plain_remove_loop _, codeAny_builtin entry_remove_loop (by
    rw [Around.under_plainId plain_remove_loop _]
    exact remove_loopK l items n x e j hj hit _ hs1 0 rfl (Nat.zero_le _) (fun m hm _ h2 => hno m hm h2) prog w A R _ ⟨hl, he, h⟩)⟩
end
section
variable {prog : Program} {w : World} {A : Around} {E : Value → Shared → Prop} {s : Shared} {rs : KeyL} {kx : Key} {key : Value} {l : Addr} {n : Nat}
theorem remove_listK {P S : KeyL} {v : Value} {Q : Value → Shared → Prop} (hu : A.in1.units < cLine) (hl : s.heap.get? l = some (listOf (valsOf (P ++ (kx, v) :: S)).toArray n)) (hr : KeysL prog w s.heap (P ++ (kx, v) :: S)) (hk : IsKey prog w s.heap kx key)
    (hno : kx ∉ P.map (·.1)) (hsm : (P ++ (kx, v) :: S).length < 1000) (h : ∀ h', h'.get? l = some (listOf (valsOf (P ++ S)).toArray (n + 1)) → Heap.SameBut l s.heap h' → Q .none { s with heap := h' }) : wpAny (model prog w) A (call (.builtin "list.remove") [.ref l, key]) Q E s := by
  obtain ⟨a, b, c⟩ := place_isFor hr hno
  refine call_meets PySem.F.slot_list_remove ⟨_, hl, rfl⟩ PySem.F.entry_list_remove (PySem.F.args_list_remove_2 _ _)
    (list_removeK l _ n key (isFor (P ++ (kx, v) :: S) kx) P.length a b c (by rw [List.size_toArray, valsOf, List.length_map]; unfold sizeLine; omega)) ⟨hl, eqAt_isFor hu hr hk, h _ ?_ (Heap.SameBut.update ..)⟩
  have q := PySem.IsL.update hl (fun xs => xs.eraseIdxIfInBounds P.length)
  have e : (valsOf (P ++ (kx, v) :: S)).toArray.eraseIdxIfInBounds P.length = (valsOf (P ++ S)).toArray := by
    apply Array.toList_inj.mp
    simp only [Array.toList_eraseIdxIfInBounds, valsOf, List.map_append, List.map_cons]
    rw [List.eraseIdx_append_of_length_le (by simp)]
    simp
  rw [e, if_neg (by simp [valsOf])] at q
  exact q
end
section
variable {prog : Program} {w : World} {A : Around} {E : Value → Shared → Prop} {s : Shared} {a b t t2 : Addr} {its : Array Value} {n n' : Nat}
theorem all_true (n : Nat) : (List.range n).all (fun _ => true) = true := List.all_eq_true.mpr fun _ _ => rfl
theorem ne_same_lists {Q : Value → Shared → Prop} (hu : A.units < cLine) (ha : s.heap.get? a = some (listOf its n)) (hb : s.heap.get? b = some (listOf its n')) (h : Q (.bool false) s) : wpAny (model prog w) A (compareOp .NotEq (.ref a) (.ref b)) Q E s := by
  refine RcNeAt.lists (e := fun _ => true) ⟨_, ha, rfl, _, rfl⟩ ⟨_, hb, rfl, _, rfl⟩ rfl hu (fun j h1 h2 => EqAt.same _) prog w E Q ?_
  rw [all_true]; exact h
theorem eqAt_pairs {q : Key} {u v : Value} {i : Int} {x y : Tok} (hu : A.units < cLine) (hu2 : A.in1.units < cLine) (ht : s.heap.get? t = some (tupOf [u, .int i x])) (ht2 : s.heap.get? t2 = some (tupOf [v, .int i y])) (hne : t ≠ t2) (k1 : IsKey prog w s.heap q u) (k2 : IsKey prog w s.heap q v) : EqAt A s (.ref t) (.ref t2) true := by
  refine EqAt.of_refs hne fun prog' w' E Q h => ?_
  refine RcAt.tuples (e := fun _ => true) ⟨_, ht, rfl, _, rfl⟩ ⟨_, ht2, rfl, _, rfl⟩ hu (fun j h1 h2 => ?_) prog' w' E Q (by rw [all_true]; exact h)
  match j, h1 with
  | 0, _ => exact (eqAt_cast (eqAt_keys hu2 k1 k2) (decide_eq_true rfl))
  | 1, _ => exact fun prog w E Q h => wpAny_eqBool_int (by rw [beq_self_eq_true]; exact h)
theorem ne_pushed_lists {Q : Value → Shared → Prop} {q : Key} {u v : Value} {i : Int} {x y : Tok} (hu : A.units < cLine) (hu1 : A.in1.units < cLine) (hu2 : A.in1.in1.units < cLine) (ha : s.heap.get? a = some (listOf (its.push (.ref t)) n)) (hb : s.heap.get? b = some (listOf (its.push (.ref t2)) n'))
    (ht : s.heap.get? t = some (tupOf [u, .int i x])) (ht2 : s.heap.get? t2 = some (tupOf [v, .int i y])) (hne : t ≠ t2) (k1 : IsKey prog w s.heap q u) (k2 : IsKey prog w s.heap q v) (h : Q (.bool false) s) : wpAny (model prog w) A (compareOp .NotEq (.ref a) (.ref b)) Q E s := by
  refine RcNeAt.lists (e := fun _ => true) ⟨_, ha, rfl, _, rfl⟩ ⟨_, hb, rfl, _, rfl⟩ (by simp) hu (fun j h1 h2 => ?_) prog w E Q ?_
  · by_cases hj : j < its.size
    · rw [Array.getElem_push_lt hj, Array.getElem_push_lt hj]
      exact EqAt.same _
    · have e : j = its.size := by simp at h1; omega
      subst e
      rw [Array.getElem_push_eq, Array.getElem_push_eq]
      exact eqAt_pairs hu1 hu2 ht ht2 hne k1 k2
  · rw [all_true]; exact h
end
end Mine
end
section
set_option maxRecDepth 100000
set_option linter.unusedVariables false
namespace Mine
open PySem PySem.W PySem.Spec PySem.Calls PyProof.Rows
/-! the parts of the law's text, read off the program -/
def bodyOf : Stmt → List Stmt
  | .FunctionDef _ _ b .. => b
  | .For _ _ b _ _ => b
  | .If _ b _ _ => b
  | _ => []
def orelseOf : Stmt → List Stmt
  | .If _ _ b _ => b
  | _ => []
def scopeOf : Stmt → Scope
  | .FunctionDef _ _ _ _ _ _ sc _ _ _ => sc
  | _ => { kind := .module, names := [], isGenerator := false, isCoroutine := false }
def nth (l : List Stmt) (i : Nat) : Stmt := l.getD i (.Pass ⟨0, 0, 0, 0⟩)
def lawS : Stmt := PySem.Challenge.pw_bb0035_01.main.body.getLast (by decide +kernel)
def lawScope : Scope := scopeOf lawS
def lawB : List Stmt := bodyOf lawS
def turnB : List Stmt := bodyOf (nth lawB 6)
def innerB : List Stmt := bodyOf (nth turnB 2)
def lastB : List Stmt := bodyOf (nth turnB 5)
theorem lawCells (L : Addr) : cellsFrom (L + 1) lawScope.names [] = [(Str.ofString "gone", L + 1)] := rfl
end Mine
end
section
set_option maxRecDepth 100000
set_option linter.unusedVariables false
namespace Mine
open PySem PySem.W PySem.Spec PySem.Calls PyProof.Rows
/-! the ledger of everything alive -/
section
variable {prog : Program} {w : World} {h₀ h hs : Heap} {L a : Addr} {o : Obj} {m : Str → Option Value} {ads : List Addr}
/-- all that stands in h off the ground, off the frame and off the list -/
noncomputable def alive (h₀ : Heap) (L : Addr) (h : Heap) (ads : List Addr) : List (Addr × Obj) :=
  (List.range h.objs.size).filterMap fun a => match h.get? a with
    | some o => if a = L ∨ (h₀.get? a).isSome = true ∨ a ∈ ads then none else some (a, o)
    | none => none
theorem mem_alive {p : Addr × Obj} : p ∈ alive h₀ L h ads ↔ h.get? p.1 = some p.2 ∧ p.1 ≠ L ∧ h₀.get? p.1 = none ∧ p.1 ∉ ads := by
  obtain ⟨a, o⟩ := p
  unfold alive
  rw [List.mem_filterMap]
  constructor
  · rintro ⟨b, hb, e⟩
    split at e
    · rename_i o' ho
      split at e
      · cases e
      · rename_i hn
        cases e
        simp only [not_or] at hn
        refine ⟨ho, hn.1, ?_, hn.2.2⟩
        cases q : h₀.get? a with
        | none => rfl
        | some _ => exact absurd (by rw [q]; rfl) hn.2.1
    · cases e
  · rintro ⟨e, n, z, q⟩
    dsimp only at *
    refine ⟨a, List.mem_range.mpr (Heap.lt_size e), ?_⟩
    rw [e]
    dsimp only
    rw [if_neg]
    rintro (x | x | x)
    · exact n x
    · rw [z] at x; cases x
    · exact q x
theorem alive_news (ads : List Addr) : News h₀ L h (alive h₀ L h ads) := fun p hp => let ⟨a, b, c, _⟩ := mem_alive.mp hp; ⟨a, b, c⟩
theorem in_alive (e : h.get? a = some o) (n : a ≠ L) (z : h₀.get? a = none) (q : a ∉ ads) : (a, o) ∈ alive h₀ L h ads := mem_alive.mpr ⟨e, n, z, q⟩
/-- what the ledger of everything alive tells of a later heap -/
theorem keep_alive {h' : Heap} {m' : Str → Option Value} {more : List (Addr × Obj)} (F : ∀ b o, h₀.get? b = some o → h.get? b = some o) (F' : Fr h₀ L h' m') (N' : News h₀ L h' more) (hs : ∀ p ∈ alive h₀ L h ads, p ∈ more) : Keep h h' (L :: ads) := fun a o e n => by
  simp only [List.mem_cons, not_or] at n
  cases q : h₀.get? a with
  | some o' =>
    have := F a o' q
    rw [e] at this
    rw [Option.some.inj this]
    exact F'.keep a o' q
  | none => exact (N' _ (hs _ (in_alive e n.1 q n.2))).1
theorem newIn_alive {x : Addr} (hz : h₀.get? x = none) (hL : x ≠ L) (hlt : ∀ p ∈ alive h₀ L h ads, p.1 < x) (hads : x ∉ ads) : h.get? x = none := by
  cases e : h.get? x with
  | none => rfl
  | some o => exact absurd (hlt _ (in_alive e hL hz hads)) (Nat.lt_irrefl _)
theorem CacheAt.keepB {ow : Addr → Nat} {k : Nat} {M : Int} {gk c dc d : Addr} {recs : List Rec} {h' : Heap} (C : CacheAt prog w h ow k h₀ L M gk c dc d recs) {ads : List Addr} (K : Keep h h' ads) (hT : ∀ a ∈ ads, ow a ≠ k ∧ ow a ≠ 98) : CacheAt prog w h' ow k h₀ L M gk c dc d recs :=
  C.keep fun a o e q => K a o e fun hm => q.elim (hT a hm).1 (hT a hm).2
theorem CacheAt.keepL {ow : Addr → Nat} {k : Nat} {M : Int} {gk c dc d : Addr} {recs : List Rec} {h' : Heap} (C : CacheAt prog w h ow k h₀ L M gk c dc d recs) (K : Keep h h' [L]) (hL : ow L = 99) (hk : k < 6) : CacheAt prog w h' ow k h₀ L M gk c dc d recs :=
  C.keepB K fun a ha => by rw [List.mem_singleton.mp ha, hL]; omega
theorem IsKeyW.keepB {ow : Addr → Nat} {q : Key} {v : Value} {h' : Heap} (x : IsKeyW prog w h ow q v) {ads : List Addr} (K : Keep h h' ads) (hT : ∀ a ∈ ads, ow a ≠ 98) : IsKeyW prog w h' ow q v :=
  ⟨x.1.mono fun a o e g _ => K a o g fun hm => hT a hm (x.2 a e), x.2⟩
theorem ne_of_cls' {x y : Addr} {ox oy : Obj} (e : h.get? x = some ox) (e' : h.get? y = some oy) (hc : ox.cls ≠ oy.cls) : x ≠ y := fun q => by
  subst q
  rw [e] at e'
  exact hc (by rw [Option.some.inj e'])
theorem Keep.up {h' : Heap} {as : List Addr} (x : Keep h h' as) (b : Addr) : Keep h h' (b :: as) := x.weaken fun _ q => .tail _ q
theorem Keep.thenL {h' h'' : Heap} {as : List Addr} (x : Keep h h' as) (y : Keep h' h'' [L]) : Keep h h'' (L :: as) := (x.up L).trans y fun b q => .inl (by rw [List.mem_singleton.mp q]; exact .head _)
/-- an item of a list of the ledger -/
theorem item_mem {A : Around} {E : Value → Shared → Prop} {s : Shared} {news : List (Addr × Obj)} {l : Addr} {its : Array Value} {n : Nat} {k : Int} {u : Tok} {v : Value} {Q : Value → Shared → Prop} {value slice : PySem.Expr} (N : News h₀ L s.heap news) (hm : (l, listOf its n) ∈ news) (h0 : 0 ≤ k) (hhi : k < 2 ^ 63) (hx : its[k.toNat]? = some v) (h : Q v s)
    (hs : subscripted slice false (.ref l) (.int k u) = operate [.ref l, .int k u] (getItem (.ref l) (.int k u))) :
    wpAny (model prog w) A (subscriptTail value slice (.ref l) (.int k u)) Q E s := by
  have hl' : s.heap.IsList l its := ⟨_, N.get hm, rfl, _, rfl⟩
  exact tail_any hl'.typeIs slot_list_getitem.lookup (wpAny_getItem_list hl' h0 hhi hx h) hs
theorem len_mem {A : Around} {E : Value → Shared → Prop} {s : Shared} {news : List (Addr × Obj)} {l : Addr} {its : Array Value} {n : Nat} {Q : Value → Shared → Prop} (N : News h₀ L s.heap news) (hm : (l, listOf its n) ∈ news) (hfit : (its.size : Int) < 2 ^ 63)
    (h : ∀ t tk, Q (.int its.size t) { s with toks := tk }) : wpAny (model prog w) A (call (.builtin "len") [.ref l]) Q E s := len_list ⟨_, N.get hm, rfl, _, rfl⟩ hfit (h _ _)
end
end Mine
end
section
set_option maxRecDepth 100000
set_option linter.unusedVariables false
namespace Mine
open PySem PySem.W PySem.Spec PySem.Calls PyProof.Rows
/-! the teller: a def with a closure and a cell of its own -/
def paramsOf : Stmt → Arguments
  | .FunctionDef _ p .. => p
  | _ => { posonlyargs := [], args := [], vararg := none, kwonlyargs := [], kw_defaults := [], kwarg := none, defaults := [] }
def posOf : Stmt → Pos
  | .FunctionDef _ _ _ _ _ _ _ _ _ p => p
  | _ => ⟨0, 0, 0, 0⟩
def tellS : Stmt := nth lawB 4
abbrev tellScope : Scope := scopeOf tellS
abbrev tellB : List Stmt := bodyOf tellS
abbrev tellP : Arguments := paramsOf tellS
section
variable {M : Model} {A : Around} {E : Value → Shared → Prop} {s : Shared}
theorem env_teller {v code : Value} {cg : Addr} {func : Option Addr} {qual : Str} {Q : Env → Shared → Prop}
    (hQ : ∀ h', (∀ b o, s.heap.get? b = some o → h'.get? b = some o) → h'.Ns s.heap.objs.size (fun _ => none) → (∃ oc, h'.get? (s.heap.objs.size + 1) = some oc ∧ oc.data = .cell (some v)) →
      Q (newEnv tellScope s.heap.objs.size mainGlobals [(Str.ofString "k", s.heap.objs.size + 1), (Str.ofString "gone", cg)] qual func code none builtinsNs) { s with heap := h' }) :
    wpAny M A (newFunctionEnv tellScope mainGlobals [(Str.ofString "gone", cg)] [(Str.ofString "k", v)] qual func code none builtinsNs) Q E s := by
  simp only [newFunctionEnv, Option.isSome_none, Bool.false_eq_true, if_false]
  refine wpAny_bind (wpAny_alloc ?_)
  refine wpAny_bind (wpAny_layCells _ (fun name kind cells => by cases hkc : kind == NameKind.cell <;> simp [hkc]) _ _ _ _ ?_)
  rw [show ({ s with heap := s.heap.push { cls := .type "frame", data := .dict #[] } } : Shared).heap.objs.size = s.heap.objs.size + 1 from Heap.size_push ..]
  rw [show cellsFrom (s.heap.objs.size + 1) tellScope.names [(Str.ofString "gone", cg)] = [(Str.ofString "k", s.heap.objs.size + 1), (Str.ofString "gone", cg)] from rfl]
  rw [show (pushCells (s.heap.push { cls := .type "frame", data := .dict #[] }) tellScope.names) = ((s.heap.push { cls := .type "frame", data := .dict #[] }).push { cls := .type "cell", data := .cell none }) from rfl]
  simp only [List.forIn_cons, List.forIn_nil]
  have e1 : ((s.heap.push { cls := .type "frame", data := .dict #[] }).push { cls := .type "cell", data := .cell none }).get? (s.heap.objs.size + 1) = some { cls := .type "cell", data := .cell none } := by
    have := Heap.get?_push_size (s.heap.push { cls := .type "frame", data := .dict #[] }) (o := { cls := .type "cell", data := .cell none }) rfl
    rwa [Heap.size_push] at this
  refine wpAny_bind (wpAny_bind (wpAny_bind (wpAny_storeName_cell (c := s.heap.objs.size + 1) rfl rfl rfl ⟨_, e1, rfl⟩ fun h' hv hs => ?_)))
  refine wpAny_pure (wpAny_pure (wpAny_pure (hQ h' (fun b o e => ?_) ?_ hv)))
  · have hb : b ≠ s.heap.objs.size + 1 := fun q => by have := Heap.lt_size e; rw [q] at this; exact absurd this (Nat.not_lt.mpr (Nat.le_succ _))
    exact hs.extBut b o hb (Heap.get?_push_of_some _ (Heap.get?_push_of_some _ e))
  · exact ((Heap.Ns.new s.heap (.type "frame")).keeps fun b o e => Heap.get?_push_of_some _ e).sameBut hs (Nat.ne_of_lt (Nat.lt_succ_self _))
end
/-! call -/
section
variable {prog : Program} {w : World} {A A₀ : Around} {s : Shared} {K : Frag} {L : Addr} {h₀ base : Heap} {m mg mb : Str → Option Value} {news : List (Addr × Obj)} {p : Program} {loose : List Str} {mean : ExcName → Option Value}
theorem code_tell {env : Env} {outer : List Env} {R : Result → Shared → Prop} {name qual : Str} {doc pm ctv v : Value} {ct cg f : Addr}
    (B : Below A₀ base outer h₀) (F : Fr h₀ L s.heap m) (X₀ : K.In h₀) (N : News h₀ L s.heap news) (T : Top p loose mean mg mb h₀) (hA : A.frames = some (env :: outer)) (hf : env.frame = some L) (hke : env.scope.kind = .function)
    (ho : s.heap.get? f = some (fnMade name qual tellP tellB tellScope [(Str.ofString "gone", cg)] doc pm ct ctv)) (hcd : s.heap.CodeRec (.ref ct) qual) (hroom : A.depth < recursionLimit)
    (h : ∀ g L' h₁ c oc, Fr g L' h₁ (fun _ => none) → News g L' h₁ ((c, oc) :: news) → (∀ p ∈ news, p.1 < c) → oc.data = .cell (some v) → Below A base (env :: outer) g → K.In g → Top p loose mean mg mb g → Keep s.heap g (news.map (·.1)) →
      wpAny (model prog w) (A.deeper (envX qual tellScope L' f (.ref ct) [(Str.ofString "k", c), (Str.ofString "gone", cg)])) (execs tellB (envX qual tellScope L' f (.ref ct) [(Str.ofString "k", c), (Str.ofString "gone", cg)]))
        (fun fl s' => LeaveT h₀ L m s.heap (news.map (·.1)) g R (match fl with | .ret v => v | _ => .none) s')
        (fun e s' => wpAny (model prog w) (A.deeper (envX qual tellScope L' f (.ref ct) [(Str.ofString "k", c), (Str.ofString "gone", cg)])) (leaving (envX qual tellScope L' f (.ref ct) [(Str.ofString "k", c), (Str.ofString "gone", cg)]) e) (fun _ s'' => R (.error e) s'') (fun e' s'' => R (.error e') s'') s')
        { s with heap := h₁ }) : codeAny (model prog w) A (.call (.ref f) ⟨[v], []⟩) R s := by
  obtain ⟨FG, BG, st, lv⟩ := groundX (R := R) B F N hA hf hke
  refine codeAny_call_function hroom ho rfl rfl rfl rfl hcd ?_
  rw [show bindArgs (fnX name qual tellP tellB tellScope [(Str.ofString "gone", cg)] .none .none doc pm none (.ref ct) ctv) ⟨[v], []⟩ = pure [(Str.ofString "k", v)] from rfl]
  refine wpAny_pure (env_teller fun h' hk hns ⟨oc, hc, hcv⟩ => ⟨(T.nolimit.keeps F.keep).keeps hk, codeAny_func ?_⟩)
  have lt : ∀ p ∈ news, p.1 < s.heap.objs.size := fun p hp => Heap.lt_size (N p hp).1
  have g0 : ∀ a, s.heap.objs.size ≤ a → (hideAll s.heap (news.map (·.1))).get? a = none := fun a ha => Heap.get?_none_of_le (by rw [hideAll_size]; exact ha)
  refine wpAny_mono (h _ s.heap.objs.size h' (s.heap.objs.size + 1) oc ⟨hns, fun b o e => hk b o (of_hideAll _ e), Nat.le_of_eq (hideAll_size _ _)⟩
    (fun p hp => ?_) (fun p hp => Nat.lt_succ_of_lt (lt p hp)) hcv BG (X₀.keeps st) (T.keeps st) (fun a o e n => hideAll_get _ e n)) (fun fl s' hl => ?_) fun _ _ y => y
  · rcases List.mem_cons.mp hp with rfl | hp
    · exact ⟨hc, Nat.ne_of_gt (Nat.lt_succ_self _), g0 _ (Nat.le_succ _)⟩
    · exact ⟨hk _ _ (N p hp).1, Nat.ne_of_lt (lt p hp), hideAll_none _ (List.mem_map_of_mem hp)⟩
  · obtain ⟨L', m', news', F', N', k⟩ := hl
    exact lv _ _ ⟨L', m', news', F', N', fun a b => k a b (fun x o e n => F'.keep x o (hideAll_get _ e n)) (newIn_of N')⟩
end
end Mine
end
section
theorem Mine.off_LawT2 : True := by w_top off; exact True.intro
set_option maxRecDepth 100000
set_option linter.unusedVariables false
set_option linter.unusedSectionVars false
set_option maxHeartbeats 1000000
namespace Mine
open PySem PySem.W PySem.Spec PySem.Calls PyProof.Rows
theorem fillT2 : (PySem.Challenge.rw_bb0035_01 = PySem.Challenge.rw_bb0035_01) ∧ (hd.heap_39 = hd.heap_39) := by k_fill; exact ⟨rfl, rfl⟩
local macro_rules | `(tactic| k_room) => `(tactic| ktr_room)
local macro_rules | `(tactic| k_units) => `(tactic| ktr_units)
local macro_rules | `(tactic| k_mem) => `(tactic| with_reducible assumption)
local macro_rules | `(tactic| walk_at "eval Name") => `(tactic| (k_here; k_dflt (refine' nameX_L ?F ?v ?_ ?a ?b; (case F => k_asm); (case a => rfl); (case b => rfl); (case v => first | with_reducible assumption | rfl | assumption); k_whole)))
local macro_rules | `(tactic| walk_at "subscriptTail") => `(tactic| (k_here; (with_reducible show wpAny _ _ (subscriptTail _ _ (Value.ref _) (Value.int _ _)) _ _ _); k_dflt (refine' item_mem ?F ?l ?a ?b ?c ?_ ?d; (case F => k_asm); (case l => k_mem); (case a => k_asm); (case b => k_asm); (case c => k_asm); (case d => with_unfolding_all rfl); k_whole)))
local macro_rules | `(tactic| walk_at "eval Name") => `(tactic| (k_here; k_dflt (refine' nameX_C ?N ?c ?m ?d ?_ ?a ?b; (case a => rfl); (case b => rfl); (case N => k_asm); (case c => with_reducible assumption); (case m => k_mem); (case d => with_reducible assumption); k_whole)))
abbrev lamQ (tq : Str) : Str := (tq ++ (".<locals>." : Str)) ++ ("<lambda>" : Str)
local macro_rules | `(tactic| k_mem) => `(tactic| first | with_reducible assumption | exact List.Mem.head _ | (refine' List.mem_cons_of_mem _ ?_; k_mem))
local macro_rules | `(tactic| k_ne) => `(tactic| first | (refine neN ?_; (try dsimp only); first | with_reducible assumption | exact Ne.symm (by with_reducible assumption)) | (refine neN ?_; (try dsimp only); omega))
local macro_rules | `(tactic| ktr_enter) => `(tactic| (refine' code_tell ?k1 ?k2 ?k3 ?k4 ?k5 ?kA ?kF ?kK ?k6 ?k7 ?k8 ?_; (case kA => exact rfl); (case kF => exact rfl); (case kK => with_reducible assumption); (case k1 => k_asm); (case k2 => k_asm); (case k3 => k_asm); (case k4 => k_asm); (case k5 => k_asm); (case k6 => with_reducible assumption); (case k7 => with_reducible assumption); (case k8 => ktr_room); k_whole; intro g' L' h' c9 oc9 F' N' l1 hoc9 B' X' T' kk'; (try dsimp only); (try k_fold)))
local macro_rules | `(tactic| walk_at "eval Lambda") => `(tactic| (k_here; k_dflt (refine' kla_eval ?d0 ?_; (case d0 => exact rfl)); (first | (k_dflt (refine' kla_nest ?F ?N ?T ?C ?cd ?U ?t ?n ?cl ?_; (case F => k_asm); (case N => k_asm); (case T => k_asm); (case cd => exact rfl); (case C => with_reducible assumption); (case U => k_updF); (case t => with_reducible assumption); (case n => with_reducible assumption); (case cl => exact rfl); k_whole); intro f' c' oc' vs' t' ct' h' tk' F' N' d1' d2' l3 l4; (try dsimp only at N')) | (k_dflt (refine' kla_hit ?F ?N ?T ?C ?cd ?mem ?t ?n ?cl ?_; (case F => k_asm); (case N => k_asm); (case T => k_asm); (case cd => exact rfl); (case C => with_reducible assumption); (case mem => k_mem); (case t => with_reducible assumption); (case n => with_reducible assumption); (case cl => exact rfl); k_whole); intro f' ct' h' tk' F' N' l3; (try dsimp only at N')))))
section
variable {prog : Program} {w : World} {p : Program} {loose : List Str} {mean : ExcName → Option Value} {mg mb : Str → Option Value}
  {dp un : Nat} {gd : Option (List Code)} {cn : Str} {a : Addr} {ccd : Value} {cl : List (Str × Addr)} {outer : List Env} {A₀ : Around} {base h₀ : Heap} {L : Addr} {m : Str → Option Value} {s : Shared} {Q : Value → Shared → Prop} {E : Value → Shared → Prop} {cs : Scope}
  {ow : Addr → Nat} {k : Nat} {M : Int} {gk c dc d : Addr} {recs : List Rec} {q : Key} {key : Value} {tk tf ts tt : Tok} {far size turn : Int} {lc : Addr}  {nc : Nat}
variable (B : Below A₀ base outer h₀) (F : Fr h₀ L s.heap m) (X : (hd.heap_39 w.params).In h₀) (T : Top p loose mean mg mb h₀) (hdp : dp + 100 < recursionLimit) (hun : un + 1000 < cLine)
include B F X T hdp hun

theorem tell_call {tq : Str} {doc pm ctv : Value} {ct cg ft P : Addr} {ps : Array Value} {v : Value} (hkf : cs.kind = .function)
    (hft : s.heap.get? ft = some (fnMade (Str.ofString "teller") tq tellP tellB tellScope [(Str.ofString "gone", cg)] doc pm ct ctv)) (hcr : s.heap.CodeRec (.ref ct) tq) (hch : CodeHd s.heap ct P)
    (hP : s.heap.get? P = some (tabObj ps)) (nP : P ≠ L) (zP : h₀.get? P = none) (hps : ps = #[] ∨ ∃ cL, ps = #[rawInt 160, rawInt 15, .ref cL] ∧ s.heap.CodeRec (.ref cL) (lamQ tq))
    (ret : ∀ h' tk' f c' ck ok pm' ctv' ps', Fr h₀ L h' m → Keep s.heap h' [P] → h'.get? f = some (kla_obj "<lambda>" (lamQ tq) lamParams lamBody lamScope [("k", ck), ("gone", cg)] pm' c' ctv') → h'.CodeRec (.ref c') (lamQ tq) →
      h'.get? ck = some ok → ok.data = .cell (some v) → h'.get? P = some (tabObj ps') → ps' = #[rawInt 160, rawInt 15, .ref c'] → s.heap.get? f = none → s.heap.get? ck = none → (s.heap.get? c' = none ∨ ps = #[rawInt 160, rawInt 15, .ref c']) →
      f ≠ L → ck ≠ L → h₀.get? f = none → h₀.get? ck = none → Q (.ref f) { s with heap := h', toks := tk' }) :
    wpAny (model prog w) (ktrTop dp un gd cn cs L a ccd cl outer) (call (.ref ft) [v]) Q E s := by
  have N : News h₀ L s.heap [(P, tabObj ps)] := news_cons ⟨hP, nP, zP⟩ news_nil
  have F9 := F.keep
  refine wpAny_call ?_
  rcases hps with rfl | ⟨cL, rfl, hcL⟩
  · k_dflt ktr_enter
    rename_i g' L' h' c9 oc9 F' N' l1 hoc9 B' X' T' kk'
    have hch' : CodeHd g' ct P := by
      obtain ⟨o, vs, file, tf, flags, tg, inF, text, tt, e, r⟩ := hch
      exact ⟨o, vs, file, tf, flags, tg, inF, text, tt, kk' _ _ e (by simpa using r.2.2.2.2.2.2.2.2), r⟩
    have nc : c9 ≠ P := Nat.ne_of_gt (l1 _ (.head _))
    have ht0 : TriplesOk (#[] : Array Value).toList := by kn_triples
    have hn0 : codeAmong lamPos (#[] : Array Value).toList = none := by kn_among
    k_steps
    try dsimp only
    try (k_unfold; try dsimp only)
    (rename Fr g' _ _ _ => F8); (rename News g' _ _ _ => N8)
    refine ⟨_, _, _, F8, N8, fun kF kN kk kf => ?_⟩
    (rename ∀ q ∈ [(c9, oc9), (P, tabObj #[])], q.1 < _ => l3); (rename _ < _ => l4)
    have e1 := kN _ (.head _)
    have e2 := kN _ (.tail _ (.head _))
    have e3 := kN _ (.tail _ (.tail _ (.head _)))
    have e4 := kN _ (.tail _ (.tail _ (.tail _ (.head _))))
    have p9 := l1 _ (.head _)
    have p8 := l3 _ (.head _)
    have w1 := (kf _ (.head _)).resolve_left fun q => by have q := List.mem_singleton.mp q; exact Nat.ne_of_gt (Nat.lt_trans (Nat.lt_trans p9 p8) l4) q
    have w2 := (kf _ (.tail _ (.head _))).resolve_left fun q => by have q := List.mem_singleton.mp q; exact Nat.ne_of_gt (Nat.lt_trans p9 p8) q
    have w3 := (kf _ (.tail _ (.tail _ (.head _)))).resolve_left fun q => by have q := List.mem_singleton.mp q; exact Nat.ne_of_gt p9 q
    exact ret _ _ _ _ _ _ _ _ _ kF kk e1.1 (codeRec_news kN (.tail _ (.head _)) (by assumption) (by assumption)) e3.1 hoc9 e4.1 rfl w1 w3 (.inl w2) e1.2.1 e3.2.1 e1.2.2 e3.2.2
  · k_dflt ktr_enter
    rename_i g' L' h' c9 oc9 F' N' l1 hoc9 B' X' T' kk'
    have hch' : CodeHd g' ct P := by
      obtain ⟨o, vs, file, tf, flags, tg, inF, text, tt, e, r⟩ := hch
      exact ⟨o, vs, file, tf, flags, tg, inF, text, tt, kk' _ _ e (by simpa using r.2.2.2.2.2.2.2.2), r⟩
    have ht0 : TriplesOk (#[rawInt 160, rawInt 15, .ref cL] : Array Value).toList := by kn_triples
    have hn0 : codeAmong lamPos (#[rawInt 160, rawInt 15, .ref cL] : Array Value).toList = some (.ref cL) := by kn_hit
    k_steps
    try dsimp only
    try (k_unfold; try dsimp only)
    (rename Fr g' _ _ _ => F8); (rename News g' _ _ _ => N8)
    refine ⟨_, _, _, F8, N8, fun kF kN kk kf => ?_⟩
    (rename ∀ q ∈ [(c9, oc9), (P, tabObj #[rawInt 160, rawInt 15, .ref cL])], q.1 < _ => l3)
    have e1 := kN _ (.head _)
    have e3 := kN _ (.tail _ (.head _))
    have e4 := kN _ (.tail _ (.tail _ (.head _)))
    have p9 := l1 _ (.head _)
    have p8 := l3 _ (.head _)
    have w1 := (kf _ (.head _)).resolve_left fun q => by have q := List.mem_singleton.mp q; exact Nat.ne_of_gt (Nat.lt_trans p9 p8) q
    have w3 := (kf _ (.tail _ (.head _))).resolve_left fun q => by have q := List.mem_singleton.mp q; exact Nat.ne_of_gt p9 q
    have hc2 : ∀ h', Keep s.heap h' [P] → h'.CodeRec (.ref cL) (lamQ tq) := fun h' kk => by
      obtain ⟨c₂, oc, vs, t, e2, hoc, hd, hv⟩ := hcL
      cases e2
      refine ⟨_, _, _, _, rfl, kk _ _ hoc fun q => ?_, hd, hv⟩
      have q := List.mem_singleton.mp q
      rw [q, hP] at hoc
      rw [← Option.some.inj hoc] at hd
      injection hd with hd
      rw [← hd] at hv
      injection hv with hv
      cases hv
    exact ret _ _ _ _ _ _ _ _ _ kF kk e1.1 (hc2 _ kk) e3.1 hoc9 e4.1 rfl w1 w3 (.inr rfl) e1.2.1 e3.2.1 e1.2.2 e3.2.2
end
end Mine
end
section
set_option maxRecDepth 100000
set_option linter.unusedVariables false
namespace Mine
open PySem PySem.W PySem.Spec PySem.Calls PyProof.Rows
/-- what is needed of the teller -/
structure TellOk (h : Heap) (ow : Addr → Nat) (h₀ : Heap) (L ft ct Pt cg lg : Addr) (tq : Str) (gs : List Value) : Prop where
  fn : ∃ doc pm ctv, h.get? ft = some (fnMade (Str.ofString "teller") tq tellP tellB tellScope [(Str.ofString "gone", cg)] doc pm ct ctv)
  code : h.CodeRec (.ref ct) tq
  hd : CodeHd h ct Pt
  tab : ∃ ps, h.get? Pt = some (tabObj ps) ∧ (ps = #[] ∨ ∃ cL, ps = #[rawInt 160, rawInt 15, .ref cL] ∧ h.CodeRec (.ref cL) (lamQ tq) ∧ ow cL = 98)
  cell : ∃ og, h.get? cg = some og ∧ og.data = .cell (some (.ref lg))
  list : ∃ n, h.get? lg = some (listOf gs.toArray n)
  own98 : ∀ a ∈ [ft, ct, cg, lg], ow a = 98
  ownP : ow Pt = 96
  offL : ∀ a ∈ [ft, cg, lg, Pt], a ≠ L ∧ h₀.get? a = none
theorem TellOk.keep {h h' : Heap} {ow ow' : Addr → Nat} {h₀ : Heap} {L ft ct Pt cg lg : Addr} {tq : Str} {gs : List Value} (x : TellOk h ow h₀ L ft ct Pt cg lg tq gs) {ads : List Addr} (kk : Keep h h' ads) (hads : ∀ a ∈ ads, ow a ≠ 98 ∧ ow a ≠ 96) (he : ∀ a o, h.get? a = some o → ow' a = ow a) : TellOk h' ow' h₀ L ft ct Pt cg lg tq gs := by
  have k98 : ∀ a o, ow a = 98 → h.get? a = some o → h'.get? a = some o := fun a o e g => kk a o g fun hm => (hads a hm).1 e
  have kc : ∀ {c : Addr} {q : Str}, ow c = 98 → h.CodeRec (.ref c) q → h'.CodeRec (.ref c) q := fun {c q} ho r => by
    obtain ⟨c₂, oc, vs, t, e2, hoc, hd, hv⟩ := r
    cases e2
    exact ⟨_, _, _, _, rfl, k98 _ _ ho hoc, hd, hv⟩
  obtain ⟨doc, pm, ctv, h1⟩ := x.fn
  obtain ⟨o3, vs, file, tf, flags, tg, inF, text, tt, e3, r3⟩ := x.hd
  obtain ⟨ps, h4, h5⟩ := x.tab
  obtain ⟨og, h6, h7⟩ := x.cell
  obtain ⟨n, h8⟩ := x.list
  have o1 := x.own98 ft (by simp)
  have o2 := x.own98 ct (by simp)
  have o3' := x.own98 cg (by simp)
  have o4 := x.own98 lg (by simp)
  have lv : ∀ a ∈ [ft, ct, cg, lg], ∃ o, h.get? a = some o := by
    simp only [List.forall_mem_cons]
    exact ⟨⟨_, h1⟩, ⟨_, e3⟩, ⟨_, h6⟩, ⟨_, h8⟩, nofun⟩
  exact {
    fn := ⟨doc, pm, ctv, k98 _ _ o1 h1⟩
    code := kc o2 x.code
    hd := ⟨o3, vs, file, tf, flags, tg, inF, text, tt, k98 _ _ o2 e3, r3⟩
    tab := ⟨ps, kk _ _ h4 (fun hm => (hads _ hm).2 x.ownP), h5.imp id fun ⟨cL, a, b, c⟩ => ⟨cL, a, kc c b, by
      obtain ⟨c₂, oc, vs, t, e2, hoc, _⟩ := b
      cases e2
      rw [he _ _ hoc]; exact c⟩⟩
    cell := ⟨og, k98 _ _ o3' h6, h7⟩
    list := ⟨n, k98 _ _ o4 h8⟩
    own98 := fun a ha => by obtain ⟨o, g⟩ := lv a ha; rw [he _ _ g]; exact x.own98 a ha
    ownP := by rw [he _ _ h4]; exact x.ownP
    offL := x.offL }
end Mine
end
section
set_option maxRecDepth 100000
set_option linter.unusedVariables false
namespace Mine
open PySem PySem.W PySem.Spec PySem.Calls PyProof.Rows
section
variable {prog : Program} {w : World} {A : Around} {E : Value → Shared → Prop} {s : Shared} {h₀ : Heap} {L d : Addr} {m : Str → Option Value} {news R : List (Addr × Obj)} {n : Nat} {xs : Ents} {k : Key} {key v : Value} {Q : Value → Shared → Prop}
/-- what the ledger tells of a key and of a dict -/
def Knows (prog : Program) (w : World) (h₀ : Heap) (L : Addr) (R : List (Addr × Obj)) (k : Key) (key : Value) (xs : Ents) : Prop := ∀ h m', Fr h₀ L h m' → News h₀ L h R → IsKey prog w h k key ∧ Keyed prog w h xs
theorem sub_keyR {value slice : PySem.Expr} (F : Fr h₀ L s.heap m) (N : News h₀ L s.heap news) (hm : (d, dictK w xs n) ∈ news) (kn : Knows prog w h₀ L R k key xs) (hs : ∀ p ∈ R, p ∈ news) (hp : look xs k = some v) (hu : A.in1.units < cLine)
    (hs' : subscripted slice false (.ref d) key = operate [.ref d, key] (getItem (.ref d) key)) (h : ∀ tk, Q v { s with toks := tk }) : wpAny (model prog w) A (subscriptTail value slice (.ref d) key) Q E s :=
  have z := kn _ _ F (news_sub N hs)
  tail_any (typeIs_dictK (N.get hm)) slot_dict_getitem.lookup (getItem_key hu z.1 (N.get hm) z.2 hp h) hs'
theorem pop_keyR {news' : List (Addr × Obj)} (F : Fr h₀ L s.heap m) (N : News h₀ L s.heap news) (U : Upd d (dictK w xs n) (dictK w (dropK xs k) (n + 1)) news news') (kn : Knows prog w h₀ L R k key xs) (hs : ∀ p ∈ R, p ∈ news) (hu : A.in1.units < cLine) (hp : look xs k = some v) (hsz : xs.length ≤ sizeLine)
    (h : ∀ h' tk, Fr h₀ L h' m → News h₀ L h' news' → Q v { s with heap := h', toks := tk }) : wpAny (model prog w) A (call (.builtin "dict.pop") [.ref d, key]) Q E s := by
  have hm : (d, dictK w xs n) ∈ news := by obtain ⟨pre, post, rfl, _, _, _⟩ := U.split; exact List.mem_append_right _ (.head _)
  have z := kn _ _ F (news_sub N hs)
  exact pop_key hu z.1 (N.get hm) z.2 hp (fun h' tk hg hs => by obtain ⟨F', N'⟩ := news_same F N U hs hg; exact h h' tk F' N') hsz
theorem setItem_keyR {news' : List (Addr × Obj)} {Q : Unit → Shared → Prop} (F : Fr h₀ L s.heap m) (N : News h₀ L s.heap news) (U : Upd d (dictK w xs n) (dictK w (xs ++ [(k, key, v)]) (n + 1)) news news') (kn : Knows prog w h₀ L R k key xs) (hs : ∀ p ∈ R, p ∈ news) (hu : A.in1.units < cLine) (hp : k ∉ keysOf xs) (hsz : xs.length ≤ sizeLine)
    (h : ∀ h' tk, Fr h₀ L h' m → News h₀ L h' news' → Q () { s with heap := h', toks := tk }) : wpAny (model prog w) A (setItem (.ref d) key v) Q E s := by
  have hm : (d, dictK w xs n) ∈ news := by obtain ⟨pre, post, rfl, _, _, _⟩ := U.split; exact List.mem_append_right _ (.head _)
  have z := kn _ _ F (news_sub N hs)
  exact setItem_new_key hu z.1 (N.get hm) z.2 hp (fun h' tk hg hs => by obtain ⟨F', N'⟩ := news_same F N U hs hg; exact h h' tk F' N') hsz
theorem Knows.of {hs : Heap} {ads : List Addr} {m₀ : Str → Option Value} (F : Fr h₀ L hs m₀) (hkey : IsKey prog w hs k key) (hx : Keyed prog w hs xs) (hads : ∀ a ∈ ads, ∀ o, hs.get? a = some o → o.cls ≠ .type "tuple") : Knows prog w h₀ L (alive h₀ L hs ads) k key xs := by
  have go : ∀ h m', Fr h₀ L h m' → News h₀ L h (alive h₀ L hs ads) → ∀ {q : Key} {v : Value}, IsKey prog w hs q v → IsKey prog w h q v := fun h m' F' N' q v x => by
    cases x with
    | int i t => exact .int i t
    | str x t => exact .str x t
    | bytes b t => exact .bytes b t
    | tup y =>
      obtain ⟨o, items, n, ho, hc, hd, r⟩ := y
      refine .tup ⟨o, items, n, keep_alive F.keep F' N' (fun _ hp => hp) _ _ ho fun hm => ?_, hc, hd, r⟩
      rcases List.mem_cons.mp hm with e | hm
      · subst e
        obtain ⟨oL, es, ep, hL, hLd, _⟩ := F.ns
        rw [ho] at hL
        rw [← Option.some.inj hL, hd] at hLd
        cases hLd
      · exact hads _ hm _ ho hc
  exact fun h m' F' N' => ⟨go h m' F' N' hkey, fun y hy => go h m' F' N' (hx.is y hy), hx.nodup⟩
end
end Mine
end
section
set_option maxRecDepth 100000
set_option linter.unusedVariables false
namespace Mine
open PySem PySem.W PySem.Spec PySem.Calls PyProof.Rows
/-! the law's whole state -/
/-- the ghost of one size -/
structure Ix where
  c : Addr
  dc : Addr
  d : Addr
  gk : Addr
  hk : Addr
  recs : List Rec
  its : Array Value
  ng : Nat
  xs : Ents
  nx : Nat
/-- what stays through the loops -/
structure St where
  lc : Addr
  lg : Addr
  lh : Addr
  lr : Addr
  lv : Addr
  ft : Addr
  ct : Addr
  Pt : Addr
  tq : Str
  cv : Array Value
section
variable (prog : Program) (w : World) (h : Heap) (ow : Addr → Nat) (h₀ : Heap) (L cg : Addr)
structure IxAt (k : Nat) (x : Ix) : Prop where
  cache : CacheAt prog w h ow k h₀ L ((k : Int) + 1) x.gk x.c x.dc x.d x.recs
  gone : h.get? x.gk = some (listOf x.its x.ng)
  gown : ow x.gk = 10 + k ∧ x.gk ≠ L ∧ h₀.get? x.gk = none
  held : h.get? x.hk = some (dictK w x.xs x.nx)
  hown : ow x.hk = 20 + k ∧ x.hk ≠ L ∧ h₀.get? x.hk = none
  hsys : (x.hk == sysModules) = false
  keyed : Keyed prog w h x.xs
  ko : ∀ e ∈ x.xs, ∀ a, e.2.1 = .ref a → ow a = 98
  hlen : x.xs.length = x.recs.length
  hlook : ∀ r ∈ x.recs, ∃ u, look x.xs r.key = some (.int r.i u)
structure LawSt (S : St) (g : Nat → Ix) (rec : KeyL) : Prop where
  ix : ∀ k, k < 6 → IxAt prog w h ow h₀ L k (g k)
  lc : ∃ n cs, h.get? S.lc = some (listOf cs n) ∧ ∀ k, k < 6 → cs[k]? = some (.ref (g k).c)
  tell : ∃ gs : List Value, TellOk h ow h₀ L S.ft S.ct S.Pt cg S.lg S.tq gs ∧ ∀ k, k < 6 → gs[k]? = some (.ref (g k).gk)
  lh : ∃ n hs, h.get? S.lh = some (listOf hs n) ∧ ∀ k, k < 6 → hs[k]? = some (.ref (g k).hk)
  lr : ∃ n, h.get? S.lr = some (listOf (valsOf rec).toArray n)
  lv : ∃ n, h.get? S.lv = some (listOf S.cv n)
  own98 : ∀ a ∈ [S.lc, S.lh, S.lv], ow a = 98 ∧ a ≠ L ∧ h₀.get? a = none
  ownr : ow S.lr = 97 ∧ S.lr ≠ L ∧ h₀.get? S.lr = none
  keys : ∀ p ∈ rec, IsKeyW prog w h ow p.1 p.2
  nodup : (rec.map (·.1)).Nodup
  oL : ow L = 99
end
/-- what the loops' iterators are: kept -/
def Keep95 (ow : Addr → Nat) (h : Heap) (ow' : Addr → Nat) (h' : Heap) : Prop := ∀ a o, h.get? a = some o → ow a = 95 → h'.get? a = some o ∧ ow' a = 95
theorem Keep95.refl (ow : Addr → Nat) (h : Heap) : Keep95 ow h ow h := fun _ _ e q => ⟨e, q⟩
theorem Keep95.trans {ow ow' ow'' : Addr → Nat} {h h' h'' : Heap} (x : Keep95 ow h ow' h') (y : Keep95 ow' h' ow'' h'') : Keep95 ow h ow'' h'' := fun a o e q => let z := x a o e q; y a o z.1 z.2
section
variable {prog : Program} {w : World} {h h' : Heap} {ow ow' : Addr → Nat} {h₀ : Heap} {L cg : Addr} {S : St} {g : Nat → Ix} {rec : KeyL} {k : Nat} {x : Ix} {ads : List Addr}
theorem IxAt.keep (X : IxAt prog w h ow h₀ L k x) (kk : ∀ a o, h.get? a = some o → (ow a = k ∨ ow a = 98 ∨ ow a = 10 + k ∨ ow a = 20 + k) → h'.get? a = some o) : IxAt prog w h' ow h₀ L k x where
  cache := X.cache.keep fun a o e q => kk a o e (q.imp id .inl)
  gone := kk _ _ X.gone (.inr (.inr (.inl X.gown.1)))
  gown := X.gown
  held := kk _ _ X.held (.inr (.inr (.inr X.hown.1)))
  hown := X.hown
  hsys := X.hsys
  keyed := ⟨fun e he => (X.keyed.is e he).mono fun a o ev q _ => kk a o q (.inr (.inl (X.ko e he a ev))), X.keyed.nodup⟩
  ko := X.ko
  hlen := X.hlen
  hlook := X.hlook
theorem IxAt.ext (X : IxAt prog w h ow h₀ L k x) (he : ∀ a o, h.get? a = some o → ow' a = ow a) : IxAt prog w h ow' h₀ L k x where
  cache := X.cache.ext he
  gone := X.gone
  gown := by rw [he _ _ X.gone]; exact X.gown
  held := X.held
  hown := by rw [he _ _ X.held]; exact X.hown
  hsys := X.hsys
  keyed := X.keyed
  ko := fun e hm => (IsKeyW.ext ⟨X.keyed.is e hm, X.ko e hm⟩ he).2
  hlen := X.hlen
  hlook := X.hlook
theorem LawSt.ext (W : LawSt prog w h ow h₀ L cg S g rec) (he : ∀ a o, h.get? a = some o → ow' a = ow a) (hL : ow' L = 99) : LawSt prog w h ow' h₀ L cg S g rec where
  ix := fun k hk => (W.ix k hk).ext he
  lc := W.lc
  tell := let ⟨gs, t, q⟩ := W.tell; ⟨gs, t.keep (ads := []) (.refl _ _) nofun he, q⟩
  lh := W.lh
  lr := W.lr
  lv := W.lv
  own98 := fun a ha => by
    have : ∃ o, h.get? a = some o := by
      obtain ⟨_, _, e1, _⟩ := W.lc
      obtain ⟨_, _, e2, _⟩ := W.lh
      obtain ⟨_, e3⟩ := W.lv
      simp only [List.mem_cons, List.not_mem_nil, or_false] at ha
      rcases ha with rfl | rfl | rfl
      · exact ⟨_, e1⟩
      · exact ⟨_, e2⟩
      · exact ⟨_, e3⟩
    obtain ⟨o, e⟩ := this
    rw [he _ _ e]; exact W.own98 a ha
  ownr := by obtain ⟨n, e⟩ := W.lr; rw [he _ _ e]; exact W.ownr
  keys := fun p hp => (W.keys p hp).ext he
  nodup := W.nodup
  oL := hL
/-- all that is owned stands -/
theorem LawSt.keep (W : LawSt prog w h ow h₀ L cg S g rec) (kk : Keep h h' ads) (hads : ∀ a ∈ ads, 93 < ow a ∧ ow a ≠ 96 ∧ ow a ≠ 97 ∧ ow a ≠ 98) : LawSt prog w h' ow h₀ L cg S g rec := by
  have go : ∀ a o, h.get? a = some o → (ow a ≤ 93 ∨ ow a = 96 ∨ ow a = 97 ∨ ow a = 98) → h'.get? a = some o := fun a o e n => kk a o e fun hm => by have := hads a hm; omega
  have o98 : ∀ a o, a ∈ [S.lc, S.lh, S.lv] → h.get? a = some o → h'.get? a = some o := fun a o ha e => go a o e (by rw [(W.own98 a ha).1]; decide)
  exact {
    ix := fun k hk => (W.ix k hk).keep fun a o e q => go a o e (by omega)
    lc := let ⟨n, cs, e, q⟩ := W.lc; ⟨n, cs, o98 _ _ (by simp) e, q⟩
    tell := let ⟨gs, t, q⟩ := W.tell; ⟨gs, t.keep kk (fun a ha => by have := hads a ha; omega) (fun _ _ _ => rfl), q⟩
    lh := let ⟨n, hs, e, q⟩ := W.lh; ⟨n, hs, o98 _ _ (by simp) e, q⟩
    lr := let ⟨n, e⟩ := W.lr; ⟨n, go _ _ e (by rw [W.ownr.1]; decide)⟩
    lv := let ⟨n, e⟩ := W.lv; ⟨n, o98 _ _ (by simp) e⟩
    own98 := W.own98
    ownr := W.ownr
    keys := fun p hp => (W.keys p hp).keepB kk fun a ha => by have := hads a ha; omega
    nodup := W.nodup
    oL := W.oL }
def updG (g : Nat → Ix) (k : Nat) (x : Ix) : Nat → Ix := fun j => if j = k then x else g j
theorem updG_same (g : Nat → Ix) (k : Nat) (x : Ix) : updG g k x k = x := if_pos rfl
theorem updG_ne {g : Nat → Ix} {k j : Nat} {x : Ix} (e : j ≠ k) : updG g k x j = g j := if_neg e
/-- what one size's turn may change -/
def OfK (ow : Addr → Nat) (k : Nat) (a : Addr) : Prop := ow a = k ∨ ow a = 10 + k ∨ ow a = 20 + k ∨ ow a = 96 ∨ ow a = 99 ∨ ow a = 94
theorem LawSt.step (W : LawSt prog w h ow h₀ L cg S g rec) (hk6 : k < 6) (he : ∀ a o, h.get? a = some o → ow' a = ow a) (hL : ow' L = 99) (kk : Keep h h' ads) (hads : ∀ a ∈ ads, OfK ow k a)
    (X : IxAt prog w h' ow' h₀ L k x) (hc : x.c = (g k).c) (hg : x.gk = (g k).gk) (hh : x.hk = (g k).hk) (tl : ∃ gs : List Value, TellOk h' ow' h₀ L S.ft S.ct S.Pt cg S.lg S.tq gs ∧ ∀ j, j < 6 → gs[j]? = some (.ref (g j).gk)) : LawSt prog w h' ow' h₀ L cg S (updG g k x) rec := by
  have go : ∀ a o, h.get? a = some o → ¬ OfK ow k a → h'.get? a = some o := fun a o e n => kk a o e fun hm => n (hads a hm)
  have o98 : ∀ a o, a ∈ [S.lc, S.lh, S.lv] → h.get? a = some o → h'.get? a = some o := fun a o ha e => go a o e (by unfold OfK; rw [(W.own98 a ha).1]; omega)
  have same : ∀ j, j < 6 → (updG g k x j).c = (g j).c ∧ (updG g k x j).gk = (g j).gk ∧ (updG g k x j).hk = (g j).hk := fun j hj => by
    by_cases e : j = k
    · subst e; rw [updG_same]; exact ⟨hc, hg, hh⟩
    · rw [updG_ne e]; exact ⟨rfl, rfl, rfl⟩
  have W' := W.ext he hL
  exact {
    ix := fun j hj => by
      by_cases e : j = k
      · subst e; rw [updG_same]; exact X
      · rw [updG_ne e]
        exact (W'.ix j hj).keep fun a o e' q => go a o e' (by rw [he a o e'] at q; unfold OfK; omega)
    lc := let ⟨n, cs, e, q⟩ := W.lc; ⟨n, cs, o98 _ _ (by simp) e, fun j hj => by rw [(same j hj).1]; exact q j hj⟩
    tell := let ⟨gs, t, q⟩ := tl; ⟨gs, t, fun j hj => by rw [(same j hj).2.1]; exact q j hj⟩
    lh := let ⟨n, hs, e, q⟩ := W.lh; ⟨n, hs, o98 _ _ (by simp) e, fun j hj => by rw [(same j hj).2.2]; exact q j hj⟩
    lr := let ⟨n, e⟩ := W.lr; ⟨n, go _ _ e (by unfold OfK; rw [W.ownr.1]; omega)⟩
    lv := let ⟨n, e⟩ := W.lv; ⟨n, o98 _ _ (by simp) e⟩
    own98 := W'.own98
    ownr := W'.ownr
    keys := fun p hp => ⟨(W.keys p hp).1.mono fun a o ev q _ => go a o q (by unfold OfK; rw [(W.keys p hp).2 a ev]; omega), (W'.keys p hp).2⟩
    nodup := W.nodup
    oL := hL }
/-- dead places are nobody's -/
noncomputable def norm (h : Heap) (ow : Addr → Nat) (L : Addr) : Addr → Nat := fun a => if a = L then 99 else if h.get? a = none then 98 else ow a
theorem norm_live {L : Addr} (oL : ow L = 99) : ∀ a o, h.get? a = some o → norm h ow L a = ow a := fun a o e => by
  unfold norm
  by_cases q : a = L
  · rw [if_pos q, q, oL]
  · rw [if_neg q, if_neg (by rw [e]; intro q; cases q)]
theorem norm_L {L : Addr} : norm h ow L L = 99 := if_pos rfl
theorem norm_dead {L : Addr} : ∀ a, a ≠ L → h.get? a = none → norm h ow L a = 98 := fun a n e => by
  unfold norm
  rw [if_neg n, if_pos e]
theorem LawSt.norm (W : LawSt prog w h ow h₀ L cg S g rec) : LawSt prog w h (norm h ow L) h₀ L cg S g rec := W.ext (norm_live W.oL) norm_L
/-- a size's turn that touches its cache alone -/
theorem IxAt.cacheStep {recs' : List Rec} (X : IxAt prog w h ow h₀ L k x) (C : CacheAt prog w h' ow k h₀ L ((k : Int) + 1) x.gk x.c x.dc x.d recs') (kk : ∀ a o, h.get? a = some o → (ow a = 98 ∨ ow a = 10 + k ∨ ow a = 20 + k) → h'.get? a = some o) (hp : recs'.Perm x.recs) : IxAt prog w h' ow h₀ L k { x with recs := recs' } where
  cache := C
  gone := kk _ _ X.gone (.inr (.inl X.gown.1))
  gown := X.gown
  held := kk _ _ X.held (.inr (.inr X.hown.1))
  hown := X.hown
  hsys := X.hsys
  keyed := ⟨fun e he => (X.keyed.is e he).mono fun a o ev q _ => kk a o q (.inl (X.ko e he a ev)), X.keyed.nodup⟩
  ko := X.ko
  hlen := X.hlen.trans hp.length_eq.symm
  hlook := fun r hr => X.hlook r (hp.subset hr)
theorem LawSt.cacheStep {recs' : List Rec} (W : LawSt prog w h ow h₀ L cg S g rec) (hk6 : k < 6) (C : CacheAt prog w h' ow k h₀ L ((k : Int) + 1) (g k).gk (g k).c (g k).dc (g k).d recs') (kk : Keep h h' ads) (hads : ∀ a ∈ ads, ow a = k ∨ ow a = 99) (hp : recs'.Perm (g k).recs) : LawSt prog w h' ow h₀ L cg S (updG g k { g k with recs := recs' }) rec :=
  W.step hk6 (fun _ _ _ => rfl) W.oL kk (fun a ha => by have := hads a ha; unfold OfK; omega)
    ((W.ix k hk6).cacheStep C (fun a o e q => kk a o e fun hm => by have := hads a hm; omega) hp) rfl rfl rfl
    (let ⟨gs, t, q⟩ := W.tell; ⟨gs, t.keep kk (fun a ha => by have := hads a ha; omega) fun _ _ _ => rfl, q⟩)
theorem IxAt.keysOf_iff (X : IxAt prog w h ow h₀ L k x) (q : Key) : q ∈ keysOf x.xs ↔ q ∈ x.recs.map (·.key) := by
  have hsub : ∀ z ∈ x.recs.map (·.key), z ∈ keysOf x.xs := fun z hz => by
    obtain ⟨r, hr, rfl⟩ := List.mem_map.mp hz
    obtain ⟨u, hu⟩ := X.hlook r hr
    exact look_some_mem hu
  refine ⟨fun hq => Classical.byContradiction fun hn => ?_, hsub q⟩
  have := nodup_sub_len (A := q :: x.recs.map (·.key)) (B := keysOf x.xs) (List.nodup_cons.mpr ⟨hn, X.cache.nodupK⟩) (fun y hy => by
    rcases List.mem_cons.mp hy with rfl | hy
    · exact hq
    · exact hsub y hy)
  simp only [List.length_cons, List.length_map, keysOf, X.hlen] at this
  omega
/-- the names that stay -/
structure MOk (m : Str → Option Value) (S : St) : Prop where
  caches : m (Str.ofString "caches") = some (.ref S.lc)
  held : m (Str.ofString "held") = some (.ref S.lh)
  teller : m (Str.ofString "teller") = some (.ref S.ft)
  recent : m (Str.ofString "recent") = some (.ref S.lr)
  cells : m (Str.ofString "cells") = some (.ref S.lv)
structure MTurn (m : Str → Option Value) (turn : Int) (tt : Tok) (key : Value) (far : Int) (tf : Tok) : Prop where
  turn : m (Str.ofString "turn") = some (.int turn tt)
  key : m (Str.ofString "key") = some key
  far : m (Str.ofString "far") = some (.int far tf)
end
end Mine
end
section
theorem Mine.off_LawD1 : True := by w_top off; exact True.intro
local macro_rules | `(tactic| walk_at "no such word") => `(tactic| fail "no step")
set_option maxRecDepth 100000
set_option linter.unusedVariables false
set_option linter.unusedSectionVars false
set_option maxHeartbeats 1000000
namespace Mine
open PySem PySem.W PySem.Spec PySem.Calls PyProof.Rows
theorem fillD1 : (PySem.Challenge.rw_bb0035_01 = PySem.Challenge.rw_bb0035_01) ∧ (hd.heap_39 = hd.heap_39) := by k_fill; exact ⟨rfl, rfl⟩
local macro_rules | `(tactic| k_room) => `(tactic| ktr_room)
local macro_rules | `(tactic| k_units) => `(tactic| ktr_units)
local macro_rules | `(tactic| k_mem) => `(tactic| with_reducible assumption)
local macro_rules | `(tactic| walk_at "eval Name") => `(tactic| (k_here; k_dflt (refine' nameX_L ?F ?v ?_ ?a ?b; (case F => k_asm); (case a => rfl); (case b => rfl); (case v => with_reducible assumption); k_whole)))
local macro_rules | `(tactic| walk_at "subscriptTail") => `(tactic| (k_here; (with_reducible show wpAny _ _ (subscriptTail _ _ (Value.ref _) (Value.int _ _)) _ _ _); k_dflt (refine' item_mem ?F ?l ?a ?b ?c ?_ ?d; (case F => k_asm); (case l => k_mem); (case a => k_asm); (case b => k_asm); (case c => k_asm); (case d => with_unfolding_all rfl); k_whole)))
local macro_rules | `(tactic| walk_at "eval Name") => `(tactic| (k_here; k_dflt (refine' nameX_C ?N ?c ?m ?d ?_ ?a ?b; (case a => rfl); (case b => rfl); (case N => k_asm); (case c => with_reducible assumption); (case m => k_mem); (case d => with_reducible assumption); k_whole)))
def dueB : List Stmt := bodyOf (nth innerB 4)
def outB : List Stmt := bodyOf (nth dueB 1)
local macro_rules | `(tactic| walk_at "call type:list") => `(tactic| (k_here; (with_reducible show wpAny _ _ (call (Value.type _) [Value.ref _]) _ _ _); (with_unfolding_all refine' list_copyK ?k1 ?k2 ?k3 ?_ ?z; (case k1 => k_asm); (case k2 => k_asm); (case k3 => exact ⟨_, News.get (by k_asm) (by k_mem), rfl, _, rfl⟩); (case z => with_reducible assumption); k_whole); intro D' c' h' F' N' l1; (try k_sweep)))
section
variable {prog : Program} {w : World} {p : Program} {loose : List Str} {mean : ExcName → Option Value} {mg mb : Str → Option Value}
  {dp un : Nat} {gd : Option (List Code)} {cn : Str} {a : Addr} {ccd : Value} {cl : List (Str × Addr)} {outer : List Env} {A₀ : Around} {base h₀ : Heap} {L : Addr} {m : Str → Option Value} {s : Shared} {Q : Flow → Shared → Prop} {E : Value → Shared → Prop}
  {ow : Addr → Nat} {k : Nat} {M : Int} {gk c dc d : Addr} {recs : List Rec} {q : Key} {key : Value} {tk tf ts tt : Tok} {far size turn : Int} {lc : Addr} {cs : Array Value} {nc : Nat}
variable (B : Below A₀ base outer h₀) (F : Fr h₀ L s.heap m) (X : (hd.heap_39 w.params).In h₀) (T : Top p loose mean mg mb h₀) (hdp : dp + 100 < recursionLimit) (hun : un + 1000 < cLine)
include B F X T hdp hun

/-- due = list(gone[k]) -/
theorem D1 {lg gk : Addr} {gs its : Array Value} {ngs ng : Nat} (hlg : s.heap.get? lg = some (listOf gs ngs)) (nlg : lg ≠ L) (zlg : h₀.get? lg = none) (hgk : gs[k]? = some (.ref gk)) (hk6 : k < 6)
    (hg : s.heap.get? gk = some (listOf its ng)) (ngk : gk ≠ L) (zgk : h₀.get? gk = none) (hsz : its.size ≤ sizeLine) {cg : Addr} {og : Obj} (hcl : cl.lookup (Str.ofString "gone") = some cg) (hcg : s.heap.get? cg = some og) (ncg : cg ≠ L) (zcg : h₀.get? cg = none) (dcg : og.data = .cell (some (.ref lg)))
    (m_k : m (Str.ofString "k") = some (.int k tk))
    (ret : ∀ h' tk' due nd, Fr h₀ L h' (fun y => if y = Str.ofString "due" then some (.ref due) else m y) → Keep s.heap h' [L] → h'.get? due = some (listOf its nd) → s.heap.get? due = none → due ≠ L → h₀.get? due = none → Q .next { s with heap := h', toks := tk' }) :
    wpAny (model prog w) (ktrTop dp un gd cn lawScope L a ccd cl outer) (exec (nth dueB 0) (envX cn lawScope L a ccd cl)) Q E s := by
  conv =>
    arg 3
    arg 1
    whnf
  have N := alive_news (h₀ := h₀) (L := L) (h := s.heap) []
  have m1 := in_alive (ads := []) hlg nlg zlg (by simp)
  have m2 := in_alive (ads := []) hg ngk zgk (by simp)
  have m3 := in_alive (ads := []) hcg ncg zcg (by simp)
  have hk0 : (0 : Int) ≤ (k : Int) := by omega
  have hk1 : (k : Int) < 2 ^ 63 := by omega
  have hk2 : gs[(k : Int).toNat]? = some (.ref gk) := hgk
  have S0 : h₀.StaysIn s.heap := F.keep
  k_steps
  (rename Fr h₀ L _ _ => F8); (rename News h₀ L _ _ => N8); (rename ∀ q ∈ alive h₀ L s.heap [], q.1 < _ => l8)
  have z := N8 _ (.head _)
  exact ret _ _ _ _ F8 (keep_alive S0 F8 N8 fun _ hp => .tail _ hp) z.1 (newIn_alive z.2.2 z.2.1 l8 (by simp)) z.2.1 z.2.2
end
end Mine
end
section
theorem Mine.off_LawD2 : True := by w_top off; exact True.intro
set_option maxRecDepth 100000
set_option linter.unusedVariables false
set_option linter.unusedSectionVars false
set_option maxHeartbeats 1000000
namespace Mine
open PySem PySem.W PySem.Spec PySem.Calls PyProof.Rows
theorem fillD2 : (PySem.Challenge.rw_bb0035_01 = PySem.Challenge.rw_bb0035_01) ∧ (hd.heap_39 = hd.heap_39) := by k_fill; exact ⟨rfl, rfl⟩
local macro_rules | `(tactic| k_room) => `(tactic| ktr_room)
local macro_rules | `(tactic| k_units) => `(tactic| ktr_units)
local macro_rules | `(tactic| k_mem) => `(tactic| with_reducible assumption)
local macro_rules | `(tactic| walk_at "eval Name") => `(tactic| (k_here; k_dflt (refine' nameX_L ?F ?v ?_ ?a ?b; (case F => k_asm); (case a => rfl); (case b => rfl); (case v => first | with_reducible assumption | rfl | assumption); k_whole)))
local macro_rules | `(tactic| walk_at "subscriptTail") => `(tactic| (k_here; (with_reducible show wpAny _ _ (subscriptTail _ _ (Value.ref _) (Value.int _ _)) _ _ _); k_dflt (refine' item_mem ?F ?l ?a ?b ?c ?_ ?d; (case F => k_asm); (case l => k_mem); (case a => k_asm); (case b => k_asm); (case c => k_asm); (case d => with_unfolding_all rfl); k_whole)))
local macro_rules | `(tactic| walk_at "eval Name") => `(tactic| (k_here; k_dflt (refine' nameX_C ?N ?c ?m ?d ?_ ?a ?b; (case a => rfl); (case b => rfl); (case N => k_asm); (case c => with_reducible assumption); (case m => k_mem); (case d => with_reducible assumption); k_whole)))
local macro_rules | `(tactic| k_mem) => `(tactic| first | with_reducible assumption | exact List.Mem.head _ | (refine' List.mem_cons_of_mem _ ?_; k_mem))
local macro_rules | `(tactic| k_ne) => `(tactic| first | (refine neN ?_; (try dsimp only); first | with_reducible assumption | exact Ne.symm (by with_reducible assumption)) | (refine neN ?_; (try dsimp only); omega))
local macro_rules | `(tactic| k_all) => `(tactic| first | with_reducible assumption | exact List.forall_mem_nil _ | (refine' List.forall_mem_cons.mpr ⟨?a, ?b⟩; (case a => k_ne); (case b => k_all)))
local macro_rules | `(tactic| walk_at "call builtin:len") => `(tactic| (k_here; (with_reducible show wpAny _ _ (call (Value.builtin "len") [Value.ref _]) _ _ _); k_dflt (refine' len_mem ?N ?l ?f ?_; (case N => k_asm); (case l => k_mem); (case f => omega); k_whole); intro t8 tk8))
local macro_rules | `(tactic| walk_at "subscriptTail") => `(tactic| (k_here; (with_reducible show wpAny _ _ (subscriptTail _ _ (Value.ref _) _) _ _ _); k_dflt (refine' sub_keyR ?F ?N ?hm ?kn ?hs ?hp ?hu ?hs' ?_; (case F => k_asm); (case N => k_asm); (case hm => k_mem); (case kn => with_reducible assumption); (case hs => (intro p hp; k_mem)); (case hp => with_reducible assumption); (case hu => ktr_units); (case hs' => with_unfolding_all rfl); k_whole); intro tk9))
local macro_rules | `(tactic| walk_at "getMethod ref") => `(tactic| (k_here; (with_reducible show wpAny _ _ (getMethod (Value.ref _) (Str.ofString "pop") _) _ _ _); k_dflt (refine' methodN ?k1 ?k2 PySem.F.slot_dict_pop PySem.F.type_dict_pop ?_; (case k1 => k_asm); (case k2 => k_mem); k_whole)))
local macro_rules | `(tactic| walk_at "call builtin:dict.pop") => `(tactic| (k_here; (with_reducible show wpAny _ _ (call (Value.builtin _) [Value.ref _, _]) _ _ _); k_dflt (refine' pop_keyR ?k1 ?k2 ?k3 ?kn ?hs ?k6 ?k7 ?k8 ?_; (case k1 => k_asm); (case k2 => k_asm); (case k3 => k_upd); (case kn => with_reducible assumption); (case hs => (intro p hp; k_mem)); (case k6 => ktr_units); (case k7 => with_reducible assumption); (case k8 => with_reducible assumption); k_whole); intro h9 tk9 F' N'; (try k_sweep)))
section
variable {prog : Program} {w : World} {p : Program} {loose : List Str} {mean : ExcName → Option Value} {mg mb : Str → Option Value}
  {dp un : Nat} {gd : Option (List Code)} {cn : Str} {a : Addr} {ccd : Value} {cl : List (Str × Addr)} {outer : List Env} {A₀ : Around} {base h₀ : Heap} {L : Addr} {m : Str → Option Value} {s : Shared} {Q : Flow → Shared → Prop} {E : Value → Shared → Prop}
  {ow : Addr → Nat} {k : Nat} {M : Int} {gk c dc d : Addr} {recs : List Rec} {q : Key} {key : Value} {tk tf ts tt : Tok} {far size turn : Int} {lc : Addr} {cs : Array Value} {nc : Nat}
variable (B : Below A₀ base outer h₀) (F : Fr h₀ L s.heap m) (X : (hd.heap_39 w.params).In h₀) (T : Top p loose mean mg mb h₀) (hdp : dp + 100 < recursionLimit) (hun : un + 1000 < cLine)
include B F X T hdp hun

/-- the test of len(recent) >= size fails -/
theorem D2a {lr : Addr} {rv : Array Value} {nr : Nat} (hlr : s.heap.get? lr = some (listOf rv nr)) (nlr : lr ≠ L) (zlr : h₀.get? lr = none) (hrs : rv.size ≤ 1000)
    (m_recent : m (Str.ofString "recent") = some (.ref lr)) (m_size : m (Str.ofString "size") = some (.int size ts)) (hlt : (rv.size : Int) < size)
    (ret : ∀ tk', Q .next { s with toks := tk' }) :
    wpAny (model prog w) (ktrTop dp un gd cn lawScope L a ccd cl outer) (exec (nth dueB 1) (envX cn lawScope L a ccd cl)) Q E s := by
  conv =>
    arg 3
    arg 1
    whnf
  have N := alive_news (h₀ := h₀) (L := L) (h := s.heap) []
  have m1 := in_alive (ads := []) hlr nlr zlr (by simp)
  k_steps
  exact ret _
theorem D2b {lr lh hk due : Addr} {rv hs its : Array Value} {nr nh nx nd : Nat} {xs : Ents} {oq : Key} {ov : Value} {i : Int} {u : Tok} (hlr : s.heap.get? lr = some (listOf rv nr)) (nlr : lr ≠ L) (zlr : h₀.get? lr = none) (hrs : rv.size ≤ 1000)
    (hlh : s.heap.get? lh = some (listOf hs nh)) (nlh : lh ≠ L) (zlh : h₀.get? lh = none) (hhk : hs[k]? = some (.ref hk)) (hk6 : k < 6)
    (hd : s.heap.get? hk = some (dictK w xs nx)) (nhk : hk ≠ L) (zhk : h₀.get? hk = none) (hxs : Keyed prog w s.heap xs)
    (hdu : s.heap.get? due = some (listOf its nd)) (ndu : due ≠ L) (zdu : h₀.get? due = none) (hsz : its.size ≤ sizeLine) (nrd : lr ≠ due) (nhd : lh ≠ due)
    (hov : rv[(size - 1).toNat]? = some ov) (hokey : IsKey prog w s.heap oq ov) (hlk : look xs oq = some (.int i u)) (hxz : xs.length ≤ sizeLine) (hs0 : 1 ≤ size) (hs6 : size ≤ 6)
    (m_recent : m (Str.ofString "recent") = some (.ref lr)) (m_size : m (Str.ofString "size") = some (.int size ts)) (m_held : m (Str.ofString "held") = some (.ref lh)) (m_k : m (Str.ofString "k") = some (.int k tk)) (m_due : m (Str.ofString "due") = some (.ref due)) (hle : size ≤ (rv.size : Int))
    (ret : ∀ h' tk' t, Fr h₀ L h' (fun y => if y = Str.ofString "out" then some ov else m y) → Keep s.heap h' [L, due, hk] → h'.get? t = some (tupOf [ov, .int i u]) → s.heap.get? t = none → t ≠ L → h₀.get? t = none → h'.get? due = some (listOf (its.push (.ref t)) (nd + 1)) → h'.get? hk = some (dictK w (dropK xs oq) (nx + 1)) → Q .next { s with heap := h', toks := tk' }) :
    wpAny (model prog w) (ktrTop dp un gd cn lawScope L a ccd cl outer) (exec (nth dueB 1) (envX cn lawScope L a ccd cl)) Q E s := by
  conv =>
    arg 3
    arg 1
    whnf
  have ne1 : due ≠ hk := ne_of_cls' hdu hd (by intro e; injection e with e; exact absurd e (by decide))
  have N : News h₀ L s.heap ((due, listOf its nd) :: (hk, dictK w xs nx) :: alive h₀ L s.heap [due, hk]) := news_cons ⟨hdu, ndu, zdu⟩ (news_cons ⟨hd, nhk, zhk⟩ (alive_news _))
  have a1 : ∀ p ∈ alive h₀ L s.heap [due, hk], p.1 ≠ due := fun p hp e => (mem_alive.mp hp).2.2.2 (by rw [e]; simp)
  have a2 : ∀ p ∈ alive h₀ L s.heap [due, hk], p.1 ≠ hk := fun p hp e => (mem_alive.mp hp).2.2.2 (by rw [e]; simp)
  have m1 := in_alive (ads := [due, hk]) hlr nlr zlr (by simp only [List.mem_cons, List.not_mem_nil, or_false, not_or]; exact ⟨nrd, ne_of_cls' hlr hd (by intro e; injection e with e; exact absurd e (by decide))⟩)
  have m2 := in_alive (ads := [due, hk]) hlh nlh zlh (by simp only [List.mem_cons, List.not_mem_nil, or_false, not_or]; exact ⟨nhd, ne_of_cls' hlh hd (by intro e; injection e with e; exact absurd e (by decide))⟩)
  have kn : Knows prog w h₀ L (alive h₀ L s.heap [due, hk]) oq ov xs := Knows.of F hokey hxs (by
    simp only [List.forall_mem_cons]
    refine ⟨fun o e => ?_, fun o e => ?_, nofun⟩
    · rw [hdu] at e; rw [← Option.some.inj e]; intro e; injection e with e; exact absurd e (by decide)
    · rw [hd] at e; rw [← Option.some.inj e]; intro e; injection e with e; exact absurd e (by decide))
  have hk0 : (0 : Int) ≤ (k : Int) := by omega
  have hk1 : (k : Int) < 2 ^ 63 := by omega
  have hk2 : hs[(k : Int).toNat]? = some (.ref hk) := hhk
  have S0 : h₀.StaysIn s.heap := F.keep
  have hz0 : 0 ≤ size - 1 := by omega
  have hz1 : size - 1 < 2 ^ 63 := by omega
  k_steps
  (rename Fr h₀ L _ _ => F8); (rename News h₀ L _ _ => N8); (rename (_ ∧ _ ∧ AllLt _ _) => l8)
  have zt := N8 _ (.head _)
  exact ret _ _ _ F8 (keep_alive S0 F8 N8 fun _ hp => .tail _ (.tail _ (.tail _ hp))) zt.1 (newIn_alive zt.2.2 zt.2.1 (ktn_ltOf l8.2.2) (by simp only [List.mem_cons, List.not_mem_nil, or_false, not_or]; exact ⟨Nat.ne_of_gt l8.1, Nat.ne_of_gt l8.2.1⟩)) zt.2.1 zt.2.2 (N8 _ (.tail _ (.head _))).1 (N8 _ (.tail _ (.tail _ (.head _)))).1
end
end Mine
end
section
theorem Mine.off_LawD3 : True := by w_top off; exact True.intro
set_option maxRecDepth 100000
set_option linter.unusedVariables false
set_option linter.unusedSectionVars false
set_option maxHeartbeats 1000000
namespace Mine
open PySem PySem.W PySem.Spec PySem.Calls PyProof.Rows
theorem fillD3 : (PySem.Challenge.rw_bb0035_01 = PySem.Challenge.rw_bb0035_01) ∧ (hd.heap_39 = hd.heap_39) := by k_fill; exact ⟨rfl, rfl⟩
local macro_rules | `(tactic| k_room) => `(tactic| ktr_room)
local macro_rules | `(tactic| k_units) => `(tactic| ktr_units)
local macro_rules | `(tactic| k_mem) => `(tactic| with_reducible assumption)
local macro_rules | `(tactic| walk_at "eval Name") => `(tactic| (k_here; k_dflt (refine' nameX_L ?F ?v ?_ ?a ?b; (case F => k_asm); (case a => rfl); (case b => rfl); (case v => first | with_reducible assumption | rfl | assumption); k_whole)))
local macro_rules | `(tactic| walk_at "subscriptTail") => `(tactic| (k_here; (with_reducible show wpAny _ _ (subscriptTail _ _ (Value.ref _) (Value.int _ _)) _ _ _); k_dflt (refine' item_mem ?F ?l ?a ?b ?c ?_ ?d; (case F => k_asm); (case l => k_mem); (case a => k_asm); (case b => k_asm); (case c => k_asm); (case d => with_unfolding_all rfl); k_whole)))
local macro_rules | `(tactic| walk_at "eval Name") => `(tactic| (k_here; k_dflt (refine' nameX_C ?N ?c ?m ?d ?_ ?a ?b; (case a => rfl); (case b => rfl); (case N => k_asm); (case c => with_reducible assumption); (case m => k_mem); (case d => with_reducible assumption); k_whole)))
local macro_rules | `(tactic| walk_at "call ref") => `(tactic| ((with_reducible show wpAny _ _ (call (Value.ref _) _) _ _ _); refine Hold.intro ?_))
local macro_rules | `(tactic| walk_at "callWith ref") => `(tactic| (k_here; k_dflt (refine' callWith_F ?X ?_; (case X => first | exact FnAt.of (by k_asm) (by with_reducible assumption) | with_reducible assumption); k_whole)))
local macro_rules | `(tactic| walk_at "And") => `(tactic| ((with_reducible show FnAt _ _ ∧ _); refine ⟨by first | exact FnAt.of (by k_asm) (by with_reducible assumption) | with_reducible assumption, ?_⟩; try dsimp only [List.nil_append, List.cons_append]))
/-- a teller that has been made serves a cache -/
theorem TellOk.teller {prog : Program} {w : World} {h h' h₀ : Heap} {ow : Addr → Nat} {L ft ct Pt cg lg f c' ck gk : Addr} {tq : Str} {gs : List Value} {k : Nat} {tk : Tok} {pm' ctv' : Value} {ok : Obj} (x : TellOk h ow h₀ L ft ct Pt cg lg tq gs) (fresh : ∀ a, h.get? a = none → ow a = 98)
    (kk : Keep h h' [Pt]) (hf : h'.get? f = some (kla_obj "<lambda>" (lamQ tq) lamParams lamBody lamScope [("k", ck), ("gone", cg)] pm' c' ctv')) (hc : h'.CodeRec (.ref c') (lamQ tq)) (hk : h'.get? ck = some ok) (hkd : ok.data = .cell (some (.int k tk)))
    (nf : h.get? f = none) (nk : h.get? ck = none) (nc : ow c' = 98) (hgk : gs[k]? = some (.ref gk)) (hk6 : k < 6) :
    ∃ qual pm ctv c' cg ck lg gs, TellerAt h' f k gk qual pm ctv c' cg ck lg gs ∧ ∀ a ∈ [f, c', cg, ck, lg], ow a = 98 := by
  have k98 : ∀ a o, ow a = 98 → h.get? a = some o → h'.get? a = some o := fun a o e g => kk a o g fun hm => by
    rw [List.mem_singleton.mp hm, x.ownP] at e; cases e
  obtain ⟨og, h6, h7⟩ := x.cell
  obtain ⟨n, h8⟩ := x.list
  have o3' := x.own98 cg (by simp)
  have o4 := x.own98 lg (by simp)
  refine ⟨_, _, _, c', cg, ck, lg, gs, ⟨hf, hc, ⟨og, k98 _ _ o3' h6, h7⟩, ⟨ok, tk, hk, hkd⟩, ⟨_, k98 _ _ o4 h8, rfl, _, rfl⟩, hgk, by omega, by omega⟩, ?_⟩
  simp only [List.forall_mem_cons]
  exact ⟨fresh _ nf, nc, o3', fresh _ nk, o4, nofun⟩
section
variable {prog : Program} {w : World} {p : Program} {loose : List Str} {mean : ExcName → Option Value} {mg mb : Str → Option Value}
  {dp un : Nat} {gd : Option (List Code)} {cn : Str} {a : Addr} {ccd : Value} {cl : List (Str × Addr)} {outer : List Env} {A₀ : Around} {base h₀ : Heap} {L : Addr} {m : Str → Option Value} {s : Shared} {Q : Flow → Shared → Prop} {E : Value → Shared → Prop}
  {ow : Addr → Nat} {k : Nat} {M : Int} {gk c dc d : Addr} {recs : List Rec} {q : Key} {key : Value} {tk tf ts tt : Tok} {far size turn : Int} {lc : Addr} {cs : Array Value} {nc : Nat}
variable (B : Below A₀ base outer h₀) (F : Fr h₀ L s.heap m) (X : (hd.heap_39 w.params).In h₀) (T : Top p loose mean mg mb h₀) (hdp : dp + 100 < recursionLimit) (hun : un + 1000 < cLine)
include B F X T hdp hun

omit B F X T hdp hun in
theorem TellOk.made {h h' : Heap} {ft ct Pt cg lg : Addr} {tq : Str} {gs : List Value} (x : TellOk h ow h₀ L ft ct Pt cg lg tq gs) (kk : Keep h h' [Pt]) {ps : Array Value} (hp : h'.get? Pt = some (tabObj ps)) (hps : ∃ cL, ps = #[rawInt 160, rawInt 15, .ref cL] ∧ h'.CodeRec (.ref cL) (lamQ tq) ∧ ow cL = 98) : TellOk h' ow h₀ L ft ct Pt cg lg tq gs := by
  have k98 : ∀ a o, ow a = 98 → h.get? a = some o → h'.get? a = some o := fun a o e g => kk a o g fun hm => by
    rw [List.mem_singleton.mp hm, x.ownP] at e; cases e
  have kc : ∀ {c : Addr} {q : Str}, ow c = 98 → h.CodeRec (.ref c) q → h'.CodeRec (.ref c) q := fun {c q} ho r => by
    obtain ⟨c₂, oc, vs, t, e2, hoc, hd, hv⟩ := r
    cases e2
    exact ⟨_, _, _, _, rfl, k98 _ _ ho hoc, hd, hv⟩
  obtain ⟨doc, pm, ctv, h1⟩ := x.fn
  obtain ⟨o3, vs, file, tf, flags, tg, inF, text, tt, e3, r3⟩ := x.hd
  obtain ⟨og, h6, h7⟩ := x.cell
  obtain ⟨n, h8⟩ := x.list
  exact {
    fn := ⟨doc, pm, ctv, k98 _ _ (x.own98 _ (by simp)) h1⟩
    code := kc (x.own98 _ (by simp)) x.code
    hd := ⟨o3, vs, file, tf, flags, tg, inF, text, tt, k98 _ _ (x.own98 _ (by simp)) e3, r3⟩
    tab := ⟨ps, hp, .inr hps⟩
    cell := ⟨og, k98 _ _ (x.own98 _ (by simp)) h6, h7⟩
    list := ⟨n, k98 _ _ (x.own98 _ (by simp)) h8⟩
    own98 := x.own98
    ownP := x.ownP
    offL := x.offL }
/-- caches[k].add(key, turn, teller(k)), room -/
theorem D3a {ft ct Pt cg lg : Addr} {tq : Str} {gs : List Value} (hk98 : k ≠ 98) (hgko : ow gk ≠ 98 ∧ ow gk ≠ 96 ∧ ow gk ≠ k) (fresh : ∀ a, s.heap.get? a = none → ow a = 98) (TO : TellOk s.heap ow h₀ L ft ct Pt cg lg tq gs) (hgk : gs[k]? = some (.ref gk))
    (C : CacheAt prog w s.heap ow k h₀ L M gk c dc d recs) (hkx : IsKeyW prog w s.heap ow q key) (hno : q ∉ (recs).map (·.key))
    (hlc : s.heap.get? lc = some (listOf cs nc)) (nlc : lc ≠ L) (zlc : h₀.get? lc = none) (hck : cs[k]? = some (.ref c)) (hk6 : k < 6)
    (m_key : m (Str.ofString "key") = some key) (m_caches : m (Str.ofString "caches") = some (.ref lc)) (m_k : m (Str.ofString "k") = some (.int k tk)) (m_turn : m (Str.ofString "turn") = some (.int turn tt)) (m_teller : m (Str.ofString "teller") = some (.ref ft))
    (hle : (recs.length : Int) + 1 ≤ M) (hsm : recs.length + 1 ≤ 100)
    (ret : ∀ h' tk' ow' r, Fr h₀ L h' m → (∀ a o, s.heap.get? a = some o → ow' a = ow a) → r.key = q → r.i = turn → r.vt = tt → CacheAt prog w h' ow' k h₀ L M gk c dc d (r :: recs) → TellOk h' ow' h₀ L ft ct Pt cg lg tq gs → Keep s.heap h' (Pt :: c :: dc :: d :: adr recs) → Q .next { s with heap := h', toks := tk' }) :
    wpAny (model prog w) (ktrTop dp un gd cn lawScope L a ccd cl outer) (exec (nth dueB 2) (envX cn lawScope L a ccd cl)) Q E s := by
  conv =>
    arg 3
    arg 1
    whnf
  have N := alive_news (h₀ := h₀) (L := L) (h := s.heap) []
  have m1 := in_alive (ads := []) hlc nlc zlc (by simp)
  have m2 := in_alive (ads := []) C.inst (C.own _ (by simp)).2.1 (C.own _ (by simp)).2.2 (by simp)
  obtain ⟨tc1, tc2, tc3, tc4, tc5, tm, ta, hdc⟩ := C.dict
  have m3 := in_alive (ads := []) hdc (C.own _ (by simp)).2.1 (C.own _ (by simp)).2.2 (by simp)
  obtain ⟨docT, pmT, ctvT, hft⟩ := TO.fn
  obtain ⟨ps, hPt, hps⟩ := TO.tab
  have o1 := TO.offL ft (by simp)
  have o2 := TO.offL Pt (by simp)
  have m5 := in_alive (ads := []) hft o1.1 o1.2 (by simp)
  have hk0 : (0 : Int) ≤ (k : Int) := by omega
  have hk1 : (k : Int) < 2 ^ 63 := by omega
  have hk2 : cs[(k : Int).toNat]? = some (.ref c) := hck
  have S0 : h₀.StaysIn s.heap := F.keep
  have hFn : FnAt ft s.heap := ⟨_, _, _, _, hft⟩
  k_steps
  unfold held
  refine tell_call B F X T (by first | omega | (dsimp only [ktrTop]; omega)) (by first | omega | (dsimp only [ktrTop]; omega)) rfl hft TO.code TO.hd hPt o2.1 o2.2 (hps.imp id fun ⟨cL, a, b, _⟩ => ⟨cL, a, b⟩) (fun h9 tk9 f c' ck ok pm' ctv' ps' F9 K9 hf hc' hck9 hok hP9 hps' nf nck nc' fL ckL f0 ck0 => ?_)
  have oc' : ow c' = 98 := by
    rcases nc' with e | e
    · exact fresh _ e
    · rcases hps with e2 | ⟨cL, e2, _, e3⟩
      · rw [e2] at e; cases e
      · rw [e2] at e
        have : cL = c' := by injection e with e; injection e with _ e; injection e with _ e; injection e with e; injection e
        rw [← this]; exact e3
  have htl := TO.teller (prog := prog) (w := w) fresh K9 hf hc' hck9 hok nf nck oc' hgk hk6
  have C9 := C.keepB K9 (fun a ha => by rw [List.mem_singleton.mp ha, TO.ownP]; omega)
  have hkx9 := hkx.keepB K9 (fun a ha => by rw [List.mem_singleton.mp ha, TO.ownP]; omega)
  have N9 := alive_news (h₀ := h₀) (L := L) (h := h9) []
  have TO9 : TellOk h9 ow h₀ L ft ct Pt cg lg tq gs := TO.made K9 hP9 ⟨c', hps', hc', oc'⟩
  clear F N m1 m2 m3 m5 hFn
  k_steps
  unfold held
  refine C_add B F9 X T rfl (by first | omega | (dsimp only [ktrTop]; omega)) (by first | omega | (dsimp only [ktrTop]; omega)) hk98 hgko.1 C9 hkx9 hno htl hle hsm (fun h8 tk8 ow' xa dxa F8 he8 C8 K8 => ?_)
  k_steps
  have own8 : ∀ a ∈ c :: dc :: d :: adr recs, ow a = k := fun a ha => (C.own a ha).1
  refine ret _ _ ow' ⟨xa, dxa, q, key, turn, tt, f⟩ F8 (fun a o e => ?_) rfl rfl rfl C8 (TO9.keep K8 (fun a ha => by rw [own8 a ha]; omega) he8) ((K9.weaken (bs := Pt :: c :: dc :: d :: adr recs) (by simp)).trans K8 (fun b hb => .inl (.tail _ hb)))
  by_cases hp : a = Pt
  · subst hp; exact he8 _ _ hP9
  · exact he8 _ _ (K9 _ _ e (by simpa using hp))
/-- caches[k].add(key, turn, teller(k)), full -/
theorem D3b {PP : List Rec} {l : Rec} {its : Array Value} {ng : Nat} {ft ct Pt cg lg : Addr} {tq : Str} {gs : List Value} (hk98 : k ≠ 98) (hgko : ow gk ≠ 98 ∧ ow gk ≠ 96 ∧ ow gk ≠ k) (fresh : ∀ a, s.heap.get? a = none → ow a = 98) (TO : TellOk s.heap ow h₀ L ft ct Pt cg lg tq gs) (hgk : gs[k]? = some (.ref gk))
    (C : CacheAt prog w s.heap ow k h₀ L M gk c dc d (PP ++ [l])) (hkx : IsKeyW prog w s.heap ow q key) (hno : q ∉ ((PP ++ [l])).map (·.key))
    (hlc : s.heap.get? lc = some (listOf cs nc)) (nlc : lc ≠ L) (zlc : h₀.get? lc = none) (hck : cs[k]? = some (.ref c)) (hk6 : k < 6)
    (m_key : m (Str.ofString "key") = some key) (m_caches : m (Str.ofString "caches") = some (.ref lc)) (m_k : m (Str.ofString "k") = some (.int k tk)) (m_turn : m (Str.ofString "turn") = some (.int turn tt)) (m_teller : m (Str.ofString "teller") = some (.ref ft))
    (hgg : s.heap.get? gk = some (listOf its ng)) (ngk : gk ≠ L ∧ h₀.get? gk = none) (hsz : its.size ≤ sizeLine)
    (hlen : ((PP ++ [l]).length : Int) = M) (hsm : PP.length + 1 ≤ 100)
    (ret : ∀ h' tk' ow' r t, Fr h₀ L h' m → (∀ a o, s.heap.get? a = some o → ow' a = ow a) → r.key = q → r.i = turn → r.vt = tt → CacheAt prog w h' ow' k h₀ L M gk c dc d (r :: PP) → TellOk h' ow' h₀ L ft ct Pt cg lg tq gs → Keep s.heap h' (Pt :: gk :: c :: dc :: d :: adr (PP ++ [l])) →
      h'.get? gk = some (listOf (its.push (.ref t)) (ng + 1)) → h'.get? t = some (tupOf [l.kv, .int l.i l.vt]) → s.heap.get? t = none → t ≠ L → h₀.get? t = none → ow' t = 98 → Q .next { s with heap := h', toks := tk' }) :
    wpAny (model prog w) (ktrTop dp un gd cn lawScope L a ccd cl outer) (exec (nth dueB 2) (envX cn lawScope L a ccd cl)) Q E s := by
  conv =>
    arg 3
    arg 1
    whnf
  have N := alive_news (h₀ := h₀) (L := L) (h := s.heap) []
  have m1 := in_alive (ads := []) hlc nlc zlc (by simp)
  have m2 := in_alive (ads := []) C.inst (C.own _ (by simp)).2.1 (C.own _ (by simp)).2.2 (by simp)
  obtain ⟨tc1, tc2, tc3, tc4, tc5, tm, ta, hdc⟩ := C.dict
  have m3 := in_alive (ads := []) hdc (C.own _ (by simp)).2.1 (C.own _ (by simp)).2.2 (by simp)
  obtain ⟨docT, pmT, ctvT, hft⟩ := TO.fn
  obtain ⟨ps, hPt, hps⟩ := TO.tab
  have o1 := TO.offL ft (by simp)
  have o2 := TO.offL Pt (by simp)
  have m5 := in_alive (ads := []) hft o1.1 o1.2 (by simp)
  have hk0 : (0 : Int) ≤ (k : Int) := by omega
  have hk1 : (k : Int) < 2 ^ 63 := by omega
  have hk2 : cs[(k : Int).toNat]? = some (.ref c) := hck
  have S0 : h₀.StaysIn s.heap := F.keep
  have hFn : FnAt ft s.heap := ⟨_, _, _, _, hft⟩
  k_steps
  unfold held
  refine tell_call B F X T (by first | omega | (dsimp only [ktrTop]; omega)) (by first | omega | (dsimp only [ktrTop]; omega)) rfl hft TO.code TO.hd hPt o2.1 o2.2 (hps.imp id fun ⟨cL, a, b, _⟩ => ⟨cL, a, b⟩) (fun h9 tk9 f c' ck ok pm' ctv' ps' F9 K9 hf hc' hck9 hok hP9 hps' nf nck nc' fL ckL f0 ck0 => ?_)
  have oc' : ow c' = 98 := by
    rcases nc' with e | e
    · exact fresh _ e
    · rcases hps with e2 | ⟨cL, e2, _, e3⟩
      · rw [e2] at e; cases e
      · rw [e2] at e
        have : cL = c' := by injection e with e; injection e with _ e; injection e with _ e; injection e with e; injection e
        rw [← this]; exact e3
  have htl := TO.teller (prog := prog) (w := w) fresh K9 hf hc' hck9 hok nf nck oc' hgk hk6
  have C9 := C.keepB K9 (fun a ha => by rw [List.mem_singleton.mp ha, TO.ownP]; omega)
  have hkx9 := hkx.keepB K9 (fun a ha => by rw [List.mem_singleton.mp ha, TO.ownP]; omega)
  have N9 := alive_news (h₀ := h₀) (L := L) (h := h9) []
  have TO9 : TellOk h9 ow h₀ L ft ct Pt cg lg tq gs := TO.made K9 hP9 ⟨c', hps', hc', oc'⟩
  have hgg9 := K9 _ _ hgg (by intro hm; exact hgko.2.1 (by rw [List.mem_singleton.mp hm]; exact TO.ownP))
  clear F N m1 m2 m3 m5 hFn
  k_steps
  unfold held
  refine C_addf B F9 X T rfl (by first | omega | (dsimp only [ktrTop]; omega)) (by first | omega | (dsimp only [ktrTop]; omega)) hk98 hgko.1 C9 hkx9 hno htl hlen hsz hgg9 ngk hgko.2.2 hsm (fun h8 tk8 ow' xa dxa t F8 he8 C8 K8 hg8 ht8 nt8 tL t0 ot => ?_)
  k_steps
  have own8 : ∀ a ∈ c :: dc :: d :: adr (PP ++ [l]), ow a = k := fun a ha => (C.own a ha).1
  refine ret _ _ ow' ⟨xa, dxa, q, key, turn, tt, f⟩ t F8 (fun a o e => ?_) rfl rfl rfl C8 (TO9.keep K8 (fun a ha => ?_) he8) ((K9.weaken (bs := Pt :: gk :: c :: dc :: d :: adr (PP ++ [l])) (by simp)).trans K8 (fun b hb => .inl (.tail _ hb))) hg8 ht8 ?_ tL t0 ot
  · by_cases hp : a = Pt
    · subst hp; exact he8 _ _ hP9
    · exact he8 _ _ (K9 _ _ e (by simpa using hp))
  · rcases List.mem_cons.mp ha with rfl | ha
    · exact ⟨hgko.1, hgko.2.1⟩
    · rw [own8 a ha]; omega
  · cases e : s.heap.get? t with
    | none => rfl
    | some o =>
      by_cases hp : t = Pt
      · rw [hp, hP9] at nt8; cases nt8
      · rw [K9 _ _ e (by simpa using hp)] at nt8; cases nt8
end
end Mine
end
section
theorem Mine.off_LawD4 : True := by w_top off; exact True.intro
set_option maxRecDepth 100000
set_option linter.unusedVariables false
set_option linter.unusedSectionVars false
set_option maxHeartbeats 1000000
namespace Mine
open PySem PySem.W PySem.Spec PySem.Calls PyProof.Rows
theorem fillD4 : (PySem.Challenge.rw_bb0035_01 = PySem.Challenge.rw_bb0035_01) ∧ (hd.heap_39 = hd.heap_39) := by k_fill; exact ⟨rfl, rfl⟩
local macro_rules | `(tactic| k_room) => `(tactic| ktr_room)
local macro_rules | `(tactic| k_units) => `(tactic| ktr_units)
local macro_rules | `(tactic| k_mem) => `(tactic| with_reducible assumption)
local macro_rules | `(tactic| walk_at "eval Name") => `(tactic| (k_here; k_dflt (refine' nameX_L ?F ?v ?_ ?a ?b; (case F => k_asm); (case a => rfl); (case b => rfl); (case v => first | with_reducible assumption | rfl | assumption); k_whole)))
local macro_rules | `(tactic| walk_at "subscriptTail") => `(tactic| (k_here; (with_reducible show wpAny _ _ (subscriptTail _ _ (Value.ref _) (Value.int _ _)) _ _ _); k_dflt (refine' item_mem ?F ?l ?a ?b ?c ?_ ?d; (case F => k_asm); (case l => k_mem); (case a => k_asm); (case b => k_asm); (case c => k_asm); (case d => with_unfolding_all rfl); k_whole)))
local macro_rules | `(tactic| walk_at "eval Name") => `(tactic| (k_here; k_dflt (refine' nameX_C ?N ?c ?m ?d ?_ ?a ?b; (case a => rfl); (case b => rfl); (case N => k_asm); (case c => with_reducible assumption); (case m => k_mem); (case d => with_reducible assumption); k_whole)))
local macro_rules | `(tactic| k_mem) => `(tactic| first | with_reducible assumption | exact List.Mem.head _ | (refine' List.mem_cons_of_mem _ ?_; k_mem))
local macro_rules | `(tactic| k_ne) => `(tactic| first | (refine neN ?_; (try dsimp only); first | with_reducible assumption | exact Ne.symm (by with_reducible assumption)) | (refine neN ?_; (try dsimp only); omega))
local macro_rules | `(tactic| k_all) => `(tactic| first | with_reducible assumption | exact List.forall_mem_nil _ | (refine' List.forall_mem_cons.mpr ⟨?a, ?b⟩; (case a => k_ne); (case b => k_all)))
local macro_rules | `(tactic| walk_at "setItem ref") => `(tactic| (k_here; (with_reducible show wpAny _ _ (setItem (Value.ref _) _ _) _ _ _); k_dflt (refine' setItem_keyR ?k1 ?k2 ?k3 ?kn ?hs ?k6 ?k7 ?k8 ?_; (case k1 => k_asm); (case k2 => k_asm); (case k3 => k_upd); (case kn => with_reducible assumption); (case hs => (intro p hp; k_mem)); (case k6 => ktr_units); (case k7 => with_reducible assumption); (case k8 => with_reducible assumption); k_whole); intro h9 tk9 F' N'; (try k_sweep)))
local macro_rules | `(tactic| walk_at "compareOp NotEq ref ref") => `(tactic| (k_here; refine Hold.intro ?_))
section
variable {prog : Program} {w : World} {p : Program} {loose : List Str} {mean : ExcName → Option Value} {mg mb : Str → Option Value}
  {dp un : Nat} {gd : Option (List Code)} {cn : Str} {a : Addr} {ccd : Value} {cl : List (Str × Addr)} {outer : List Env} {A₀ : Around} {base h₀ : Heap} {L : Addr} {m : Str → Option Value} {s : Shared} {Q : Flow → Shared → Prop} {E : Value → Shared → Prop}
  {ow : Addr → Nat} {k : Nat} {M : Int} {gk c dc d : Addr} {recs : List Rec} {q : Key} {key : Value} {tk tf ts tt : Tok} {far size turn : Int} {lc : Addr} {cs : Array Value} {nc : Nat}
variable (B : Below A₀ base outer h₀) (F : Fr h₀ L s.heap m) (X : (hd.heap_39 w.params).In h₀) (T : Top p loose mean mg mb h₀) (hdp : dp + 100 < recursionLimit) (hun : un + 1000 < cLine)
include B F X T hdp hun

/-- held[k][key] = turn -/
theorem D4 {lh hk : Addr} {hs : Array Value} {nh nx : Nat} {xs : Ents} (hkx : IsKey prog w s.heap q key)
    (hlh : s.heap.get? lh = some (listOf hs nh)) (nlh : lh ≠ L) (zlh : h₀.get? lh = none) (hhk : hs[k]? = some (.ref hk)) (hk6 : k < 6)
    (hd : s.heap.get? hk = some (dictK w xs nx)) (nhk : hk ≠ L) (zhk : h₀.get? hk = none) (hxs : Keyed prog w s.heap xs) (hno : q ∉ keysOf xs) (hxz : xs.length ≤ sizeLine)
    (m_key : m (Str.ofString "key") = some key) (m_held : m (Str.ofString "held") = some (.ref lh)) (m_k : m (Str.ofString "k") = some (.int k tk)) (m_turn : m (Str.ofString "turn") = some (.int turn tt))
    (ret : ∀ h' tk', Fr h₀ L h' m → Keep s.heap h' [L, hk] → h'.get? hk = some (dictK w (xs ++ [(q, key, .int turn tt)]) (nx + 1)) → Q .next { s with heap := h', toks := tk' }) :
    wpAny (model prog w) (ktrTop dp un gd cn lawScope L a ccd cl outer) (exec (nth dueB 3) (envX cn lawScope L a ccd cl)) Q E s := by
  conv =>
    arg 3
    arg 1
    whnf
  have N : News h₀ L s.heap ((hk, dictK w xs nx) :: alive h₀ L s.heap [hk]) := news_cons ⟨hd, nhk, zhk⟩ (alive_news _)
  have a2 : ∀ p ∈ alive h₀ L s.heap [hk], p.1 ≠ hk := fun p hp e => (mem_alive.mp hp).2.2.2 (by rw [e]; simp)
  have m2 := in_alive (ads := [hk]) hlh nlh zlh (by simp only [List.mem_cons, List.not_mem_nil, or_false]; exact ne_of_cls' hlh hd (by intro e; injection e with e; exact absurd e (by decide)))
  have kn : Knows prog w h₀ L (alive h₀ L s.heap [hk]) q key xs := Knows.of F hkx hxs (by
    simp only [List.forall_mem_cons]
    refine ⟨fun o e => ?_, nofun⟩
    rw [hd] at e; rw [← Option.some.inj e]; intro e; injection e with e; exact absurd e (by decide))
  have hk0 : (0 : Int) ≤ (k : Int) := by omega
  have hk1 : (k : Int) < 2 ^ 63 := by omega
  have hk2 : hs[(k : Int).toNat]? = some (.ref hk) := hhk
  have S0 : h₀.StaysIn s.heap := F.keep
  k_steps
  (rename Fr h₀ L _ _ => F8); (rename News h₀ L _ _ => N8)
  exact ret _ _ F8 (keep_alive S0 F8 N8 fun _ hp => .tail _ hp) (N8 _ (.head _)).1
/-- if gone[k] != due -/
theorem D5 {lg gk due : Addr} {gs its its' : Array Value} {ngs ng nd : Nat} (hlg : s.heap.get? lg = some (listOf gs ngs)) (nlg : lg ≠ L) (zlg : h₀.get? lg = none) (hgk : gs[k]? = some (.ref gk)) (hk6 : k < 6)
    (hg : s.heap.get? gk = some (listOf its ng)) (hdu : s.heap.get? due = some (listOf its' nd))
    (hsame : its = its' ∨ ∃ (it0 : Array Value) (t t2 : Addr) (q : Key) (u v : Value) (i : Int) (x y : Tok), its = it0.push (.ref t) ∧ its' = it0.push (.ref t2) ∧ s.heap.get? t = some (tupOf [u, .int i x]) ∧ s.heap.get? t2 = some (tupOf [v, .int i y]) ∧ t ≠ t2 ∧ IsKey prog w s.heap q u ∧ IsKey prog w s.heap q v)
    {cg : Addr} {og : Obj} (hcl : cl.lookup (Str.ofString "gone") = some cg) (hcg : s.heap.get? cg = some og) (ncg : cg ≠ L) (zcg : h₀.get? cg = none) (dcg : og.data = .cell (some (.ref lg)))
    (m_k : m (Str.ofString "k") = some (.int k tk)) (m_due : m (Str.ofString "due") = some (.ref due))
    (ret : ∀ tk', Q .next { s with toks := tk' }) :
    wpAny (model prog w) (ktrTop dp un gd cn lawScope L a ccd cl outer) (exec (nth dueB 4) (envX cn lawScope L a ccd cl)) Q E s := by
  conv =>
    arg 3
    arg 1
    whnf
  have N := alive_news (h₀ := h₀) (L := L) (h := s.heap) []
  have m1 := in_alive (ads := []) hlg nlg zlg (by simp)
  have m3 := in_alive (ads := []) hcg ncg zcg (by simp)
  have hk0 : (0 : Int) ≤ (k : Int) := by omega
  have hk1 : (k : Int) < 2 ^ 63 := by omega
  have hk2 : gs[(k : Int).toNat]? = some (.ref gk) := hgk
  k_steps
  unfold held
  rcases hsame with rfl | ⟨it0, t, t2, q, u, v, i, x, y, rfl, rfl, h1, h2, h3, h4, h5⟩
  · refine ne_same_lists (by show un < cLine; omega) hg hdu ?_
    k_steps
    exact ret _
  · refine ne_pushed_lists (by show un < cLine; omega) (by show un + _ < cLine; omega) (by show un + _ + _ < cLine; omega) hg hdu h1 h2 h3 h4 h5 ?_
    k_steps
    exact ret _
end
end Mine
end
section
set_option maxRecDepth 100000
set_option linter.unusedVariables false
set_option linter.unusedSectionVars false
namespace Mine
open PySem PySem.W PySem.Spec PySem.Calls PyProof.Rows
theorem valsOf_size (rec : KeyL) : (valsOf rec).toArray.size = rec.length := by simp [valsOf]
theorem dueB_eq : dueB = [nth dueB 0, nth dueB 1, nth dueB 2, nth dueB 3, nth dueB 4] := rfl
section
variable {prog : Program} {w : World} {p : Program} {loose : List Str} {mean : ExcName → Option Value} {mg mb : Str → Option Value}
  {dp un : Nat} {gd : Option (List Code)} {cn : Str} {a : Addr} {ccd : Value} {cl : List (Str × Addr)} {outer : List Env} {A₀ : Around} {base h₀ : Heap} {L : Addr} {m : Str → Option Value} {s : Shared} {Q : Flow → Shared → Prop} {E : Value → Shared → Prop}
  {ow : Addr → Nat} {k : Nat} {q : Key} {key : Value} {tk tf ts tt : Tok} {far size turn : Int} {cg : Addr} {S : St} {g : Nat → Ix} {rec : KeyL}
variable (B : Below A₀ base outer h₀) (F : Fr h₀ L s.heap m) (X : (hd.heap_39 w.params).In h₀) (T : Top p loose mean mg mb h₀) (hdp : dp + 100 < recursionLimit) (hun : un + 1000 < cLine)
include B F X T hdp hun

theorem due_room (W : LawSt prog w s.heap ow h₀ L cg S g rec) (hk6 : k < 6) (MO : MOk m S) (MT : MTurn m turn tt key far tf) (m_k : m (Str.ofString "k") = some (.int k tk)) (m_size : m (Str.ofString "size") = some (.int ((k : Int) + 1) ts))
    (hkx : IsKeyW prog w s.heap ow q key) (hno : q ∉ (g k).recs.map (·.key)) (hroom : (g k).recs.length < k + 1) (hrl : rec.length < k + 1) (hits : (g k).its.size ≤ 100) (hcl : cl.lookup (Str.ofString "gone") = some cg)
    (ret : ∀ h' tk' m' ow' x', Fr h₀ L h' m' → MOk m' S → MTurn m' turn tt key far tf → LawSt prog w h' ow' h₀ L cg S (updG g k x') rec → IsKeyW prog w h' ow' q key → Keep95 ow s.heap ow' h' → x'.recs.map (·.key) = q :: (g k).recs.map (·.key) → x'.its.size ≤ (g k).its.size + 1 → Q .next { s with heap := h', toks := tk' }) :
    wpAny (model prog w) (ktrTop dp un gd cn lawScope L a ccd cl outer) (execs dueB (envX cn lawScope L a ccd cl)) Q E s := by
  have Xk := W.ix k hk6
  obtain ⟨nlc, cs, elc, hcs⟩ := W.lc
  obtain ⟨gs, TO, hgs⟩ := W.tell
  obtain ⟨nlh, hs, elh, hhs⟩ := W.lh
  obtain ⟨nlr, elr⟩ := W.lr
  obtain ⟨og, hcg, dcg⟩ := TO.cell
  obtain ⟨ngl, hgl⟩ := TO.list
  have olg := TO.offL S.lg (by simp)
  have ocg := TO.offL cg (by simp)
  have olc := W.own98 S.lc (by simp)
  have olh := W.own98 S.lh (by simp)
  have hgk := hgs k hk6
  have hgk' : gs.toArray[k]? = some (.ref (g k).gk) := by simpa using hgk
  rw [dueB_eq]
  refine wpAny_execs_cons (D1 B F X T hdp hun hgl olg.1 olg.2 hgk' hk6 Xk.gone Xk.gown.2.1 Xk.gown.2.2 (by unfold sizeLine; omega) hcl hcg ocg.1 ocg.2 dcg m_k (fun h1 tk1 due nd F1 K1 hdu1 ndu0 nduL zdu => ?_))
  have hL0 : ∃ o, s.heap.get? L = some o := by obtain ⟨o, _, _, e, _⟩ := F.ns; exact ⟨o, e⟩
  have hdL : due ≠ L := nduL
  have he1 : ∀ b o, s.heap.get? b = some o → norm s.heap ow L b = ow b := norm_live W.oL
  have W0 := W.norm
  have k0 := hkx.ext he1
  have W1 : LawSt prog w h1 (norm s.heap ow L) h₀ L cg S g rec := W0.keep K1 (fun b hb => by rw [List.mem_singleton.mp hb, norm_L]; decide)
  have k1 := k0.keepB K1 (fun b hb => by rw [List.mem_singleton.mp hb, norm_L]; decide)
  have o1 : norm s.heap ow L due = 98 := norm_dead _ hdL ndu0
  generalize hw1 : norm s.heap ow L = ow1 at *
  obtain ⟨nlr1, elr1⟩ := W1.lr
  have orr := W1.ownr
  refine wpAny_execs_cons (D2a B F1 X T hdp hun elr1 orr.2.1 orr.2.2 (by rw [valsOf_size]; omega) MO.recent m_size (by rw [valsOf_size]; omega) (fun tk2 => ?_))
  -- the add
  have W2 := W1.norm
  have he2 : ∀ b o, h1.get? b = some o → norm h1 ow1 L b = ow1 b := norm_live W1.oL
  have k2 := k1.ext he2
  have o2 : norm h1 ow1 L due = 98 := (he2 _ _ hdu1).trans o1
  have hLn : ∀ b, h1.get? b = none → norm h1 ow1 L b = 98 := fun b e => norm_dead b (fun q => by obtain ⟨o, _, _, e', _⟩ := F1.ns; rw [q, e'] at e; cases e) e
  generalize hw2 : norm h1 ow1 L = ow2 at *
  have X2 := W2.ix k hk6
  obtain ⟨nlc2, cs2, elc2, hcs2⟩ := W2.lc
  obtain ⟨gs2, TO2, hgs2⟩ := W2.tell
  have olc2 := W2.own98 S.lc (by simp)
  refine wpAny_execs_cons (D3a B F1 X T hdp hun (by omega) ⟨by rw [X2.gown.1]; omega, by rw [X2.gown.1]; omega, by rw [X2.gown.1]; omega⟩ hLn TO2 (hgs2 k hk6) X2.cache k2 hno elc2 olc2.2.1 olc2.2.2 (hcs2 k hk6) hk6 MT.key MO.caches m_k MT.turn MO.teller (by omega) (by omega)
    (fun h3 tk3 ow3 r F3 he3 hrk hri hrt C3 TO3 K3 => ?_))
  obtain ⟨oLb, hLb⟩ : ∃ o, h1.get? L = some o := by obtain ⟨o, _, _, e, _⟩ := F1.ns; exact ⟨o, e⟩
  have hL3 : ow3 L = 99 := (he3 _ _ hLb).trans W2.oL
  have ads3 : ∀ b ∈ S.Pt :: (g k).c :: (g k).dc :: (g k).d :: adr (g k).recs, ow2 b = 96 ∨ ow2 b = k := fun b hb => by
    rcases List.mem_cons.mp hb with rfl | hb
    · exact .inl TO2.ownP
    · exact .inr (X2.cache.own b hb).1
  have up : ∀ b o, (ow2 b ≠ 96 ∧ ow2 b ≠ k) → h1.get? b = some o → h3.get? b = some o := fun b o n e => K3 b o e fun hm => (ads3 b hm).elim n.1 n.2
  have k3 : IsKeyW prog w h3 ow3 q key := by
    have := k2.ext he3
    exact ⟨this.1.mono fun b o ev e _ => up b o (by rw [k2.2 b ev]; omega) e, this.2⟩
  have x3 : ∀ e ∈ (g k).xs, IsKeyW prog w h3 ow3 e.1 e.2.1 := fun e he => by
    have := (IsKeyW.ext ⟨X2.keyed.is e he, X2.ko e he⟩ he3 : IsKeyW prog w h1 ow3 e.1 e.2.1)
    exact ⟨this.1.mono fun b o ev g _ => up b o (by rw [X2.ko e he b ev]; omega) g, this.2⟩
  obtain ⟨nlh2, hs2, elh2, hhs2⟩ := W2.lh
  have olh2 := W2.own98 S.lh (by simp)
  have hno' : q ∉ keysOf (g k).xs := fun hq => hno ((X2.keysOf_iff q).mp hq)
  have hxl := X2.hlen
  have hhk1 := X2.hown.1
  have hgk1 := X2.gown.1
  refine wpAny_execs_cons (D4 B F3 X T hdp hun k3.1 (up _ _ (by rw [olh2.1]; omega) elh2) olh2.2.1 olh2.2.2 (hhs2 k hk6) hk6 (up _ _ (by rw [hhk1]; omega) X2.held) X2.hown.2.1 X2.hown.2.2 ⟨fun e he => (x3 e he).1, X2.keyed.nodup⟩ hno' (by unfold sizeLine; omega) MT.key MO.held m_k MT.turn
    (fun h4 tk4 F4 K4 hd4 => ?_))
  have up4 : ∀ b o, (ow2 b ≠ 96 ∧ ow2 b ≠ k ∧ ow2 b ≠ 99 ∧ ow2 b ≠ 20 + k) → h1.get? b = some o → h4.get? b = some o := fun b o n e => K4 b o (up b o ⟨n.1, n.2.1⟩ e) (by
    simp only [List.mem_cons, List.not_mem_nil, or_false]
    rintro (rfl | rfl)
    · exact n.2.2.1 W2.oL
    · exact n.2.2.2 hhk1)
  obtain ⟨og2, hcg2, dcg2⟩ := TO2.cell
  obtain ⟨ngl2, hgl2⟩ := TO2.list
  have ow98 : ∀ b, ow2 b = 98 → ow2 b ≠ 96 ∧ ow2 b ≠ k ∧ ow2 b ≠ 99 ∧ ow2 b ≠ 20 + k := fun b e => by rw [e]; omega
  have hgk2 : gs2.toArray[k]? = some (.ref (g k).gk) := by simpa using hgs2 k hk6
  refine wpAny_execs_cons (D5 B F4 X T hdp hun (up4 _ _ (ow98 _ (TO2.own98 _ (by simp))) hgl2) olg.1 olg.2 hgk2 hk6 (up4 _ _ (by rw [hgk1]; omega) X2.gone) (up4 _ _ (ow98 _ o2) hdu1) (.inl rfl) hcl (up4 _ _ (ow98 _ (TO2.own98 _ (by simp))) hcg2) ocg.1 ocg.2 dcg2 m_k rfl (fun tk5 => ?_))
  refine wpAny_execs_nil ?_
  have k4 : IsKeyW prog w h4 ow3 q key := by
    have := k2.ext he3
    exact ⟨this.1.mono fun b o ev e _ => up4 b o (ow98 _ (k2.2 b ev)) e, this.2⟩
  have x4 : ∀ e ∈ (g k).xs, IsKeyW prog w h4 ow3 e.1 e.2.1 := fun e he => by
    have := (IsKeyW.ext ⟨X2.keyed.is e he, X2.ko e he⟩ he3 : IsKeyW prog w h1 ow3 e.1 e.2.1)
    exact ⟨this.1.mono fun b o ev g _ => up4 b o (ow98 _ (X2.ko e he b ev)) g, this.2⟩
  have ow3gk : ow3 (g k).gk = 10 + k := (he3 _ _ X2.gone).trans hgk1
  have ow3hk : ow3 (g k).hk = 20 + k := (he3 _ _ X2.held).trans hhk1
  have X4 : IxAt prog w h4 ow3 h₀ L k { g k with recs := r :: (g k).recs, xs := (g k).xs ++ [(q, key, .int turn tt)], nx := (g k).nx + 1 } := {
    cache := C3.keepB K4 (by
      simp only [List.forall_mem_cons]
      exact ⟨by rw [hL3]; omega, by rw [ow3hk]; omega, nofun⟩)
    gone := up4 _ _ (by rw [hgk1]; omega) X2.gone
    gown := ⟨ow3gk, X2.gown.2⟩
    held := hd4
    hown := ⟨ow3hk, X2.hown.2⟩
    hsys := X2.hsys
    keyed := keyed_snoc ⟨fun e he => (x4 e he).1, X2.keyed.nodup⟩ k4.1 hno'
    ko := fun e he => by
      rcases List.mem_append.mp he with he | he
      · exact (x4 e he).2
      · rw [List.mem_singleton.mp he]; exact k4.2
    hlen := by simp [hxl]
    hlook := fun r' hr' => by
      rcases List.mem_cons.mp hr' with rfl | hr'
      · exact ⟨tt, by rw [hrk, hri]; exact look_snoc_new (look_none_iff.mpr hno')⟩
      · obtain ⟨u, hu⟩ := X2.hlook r' hr'
        exact ⟨u, look_snoc _ hu⟩ }
  refine ret h4 _ _ ow3 _ F4 ⟨MO.caches, MO.held, MO.teller, MO.recent, MO.cells⟩ ⟨MT.turn, MT.key, MT.far⟩
    (W2.step (ads := (S.Pt :: (g k).c :: (g k).dc :: (g k).d :: adr (g k).recs) ++ [L, (g k).hk]) hk6 he3 hL3 (fun b o e n => ?_) (fun b hb => ?_) X4 rfl rfl rfl ⟨gs2, TO3.keep K4 (by
      simp only [List.forall_mem_cons]
      exact ⟨by rw [hL3]; omega, by rw [ow3hk]; omega, nofun⟩) (fun _ _ _ => rfl), hgs2⟩) k4 (fun b o e e95 => ?_) (by simp [hrk]) (by simp)
  · rw [List.mem_append, not_or] at n
    exact K4 b o (K3 b o e n.1) n.2
  · unfold OfK
    rcases List.mem_append.mp hb with hb | hb
    · have := ads3 b hb; omega
    · simp only [List.mem_cons, List.not_mem_nil, or_false] at hb
      rcases hb with rfl | rfl
      · have := W2.oL; omega
      · omega
  · have e1 : h1.get? b = some o := K1 b o e (by
      simp only [List.mem_cons, List.not_mem_nil, or_false]
      rintro rfl
      rw [W.oL] at e95; cases e95)
    have z1 := (he1 _ _ e).trans e95
    have z2 := (he2 _ _ e1).trans z1
    exact ⟨up4 b o (by rw [z2]; omega) e1, (he3 _ _ e1).trans z2⟩
end
end Mine
end
section
set_option maxRecDepth 100000
set_option linter.unusedVariables false
set_option linter.unusedSectionVars false
set_option maxHeartbeats 2000000
namespace Mine
open PySem PySem.W PySem.Spec PySem.Calls PyProof.Rows
section
variable {prog : Program} {w : World} {p : Program} {loose : List Str} {mean : ExcName → Option Value} {mg mb : Str → Option Value}
  {dp un : Nat} {gd : Option (List Code)} {cn : Str} {a : Addr} {ccd : Value} {cl : List (Str × Addr)} {outer : List Env} {A₀ : Around} {base h₀ : Heap} {L : Addr} {m : Str → Option Value} {s : Shared} {Q : Flow → Shared → Prop} {E : Value → Shared → Prop}
  {ow : Addr → Nat} {k : Nat} {q : Key} {key : Value} {tk tf ts tt : Tok} {far size turn : Int} {cg : Addr} {S : St} {g : Nat → Ix} {rec : KeyL}
variable (B : Below A₀ base outer h₀) (F : Fr h₀ L s.heap m) (X : (hd.heap_39 w.params).In h₀) (T : Top p loose mean mg mb h₀) (hdp : dp + 100 < recursionLimit) (hun : un + 1000 < cLine)
include B F X T hdp hun

theorem due_full {PP : List Rec} {l : Rec} {oq : Key} {ov : Value} (W : LawSt prog w s.heap ow h₀ L cg S g rec) (hk6 : k < 6) (MO : MOk m S) (MT : MTurn m turn tt key far tf) (m_k : m (Str.ofString "k") = some (.int k tk)) (m_size : m (Str.ofString "size") = some (.int ((k : Int) + 1) ts))
    (hkx : IsKeyW prog w s.heap ow q key) (hno : q ∉ (g k).recs.map (·.key)) (hre : (g k).recs = PP ++ [l]) (hPP : PP.length = k) (hrec : rec[k]? = some (oq, ov)) (hlo : l.key = oq) (hrl : rec.length ≤ 100) (hits : (g k).its.size ≤ 100) (hcl : cl.lookup (Str.ofString "gone") = some cg)
    (ret : ∀ h' tk' m' ow' x', Fr h₀ L h' m' → MOk m' S → MTurn m' turn tt key far tf → LawSt prog w h' ow' h₀ L cg S (updG g k x') rec → IsKeyW prog w h' ow' q key → Keep95 ow s.heap ow' h' → x'.recs.map (·.key) = q :: PP.map (·.key) → x'.its.size ≤ (g k).its.size + 1 → Q .next { s with heap := h', toks := tk' }) :
    wpAny (model prog w) (ktrTop dp un gd cn lawScope L a ccd cl outer) (execs dueB (envX cn lawScope L a ccd cl)) Q E s := by
  have Xk := W.ix k hk6
  obtain ⟨gs, TO, hgs⟩ := W.tell
  obtain ⟨og, hcg, dcg⟩ := TO.cell
  obtain ⟨ngl, hgl⟩ := TO.list
  have olg := TO.offL S.lg (by simp)
  have ocg := TO.offL cg (by simp)
  have hgk := hgs k hk6
  have hgk' : gs.toArray[k]? = some (.ref (g k).gk) := by simpa using hgk
  rw [dueB_eq]
  refine wpAny_execs_cons (D1 B F X T hdp hun hgl olg.1 olg.2 hgk' hk6 Xk.gone Xk.gown.2.1 Xk.gown.2.2 (by unfold sizeLine; omega) hcl hcg ocg.1 ocg.2 dcg m_k (fun h1 tk1 due nd F1 K1 hdu1 ndu0 nduL zdu => ?_))
  obtain ⟨oL0, hL0⟩ : ∃ o, s.heap.get? L = some o := by obtain ⟨o, _, _, e, _⟩ := F.ns; exact ⟨o, e⟩
  obtain ⟨ow1, hw1⟩ : ∃ f : Addr → Nat, f = fun b => if b = due then 94 else norm s.heap ow L b := ⟨_, rfl⟩
  have he1 : ∀ b o, s.heap.get? b = some o → ow1 b = ow b := fun b o e => by
    rw [hw1]
    show (if b = due then _ else _) = _
    rw [if_neg (fun q => by rw [q, ndu0] at e; cases e)]
    exact norm_live W.oL b o e
  have o1 : ow1 due = 94 := by rw [hw1]; exact if_pos rfl
  have hL1 : ow1 L = 99 := (he1 _ _ hL0).trans W.oL
  have dead1 : ∀ b, b ≠ due → b ≠ L → s.heap.get? b = none → ow1 b = 98 := fun b n1 n2 e => by
    rw [hw1]
    show (if b = due then _ else _) = _
    rw [if_neg n1]
    exact norm_dead b n2 e
  clear hw1
  have W1 : LawSt prog w h1 ow1 h₀ L cg S g rec := (W.ext he1 hL1).keep K1 (fun b hb => by rw [List.mem_singleton.mp hb, hL1]; decide)
  have k1 := (hkx.ext he1).keepB K1 (fun b hb => by rw [List.mem_singleton.mp hb, hL1]; decide)
  have X1 := W1.ix k hk6
  obtain ⟨nlr1, elr1⟩ := W1.lr
  have orr := W1.ownr
  obtain ⟨nlh1, hs1, elh1, hhs1⟩ := W1.lh
  have olh1 := W1.own98 S.lh (by simp)
  have hhk1 := X1.hown.1
  have hgk1 := X1.gown.1
  have hxl := X1.hlen
  have hmem : (oq, ov) ∈ rec := List.mem_of_getElem? hrec
  have ko1 : IsKeyW prog w h1 ow1 oq ov := W1.keys _ hmem
  have hkr : k < rec.length := (List.getElem?_eq_some_iff.mp hrec).1
  have hl1 : l ∈ (g k).recs := by rw [hre]; simp
  obtain ⟨u, hu⟩ := X1.hlook l hl1
  rw [hlo] at hu
  have klv := X1.cache.keys l hl1
  have hlen1 : (g k).recs.length = k + 1 := by rw [hre]; simp [hPP]
  refine wpAny_execs_cons (D2b B F1 X T hdp hun elr1 orr.2.1 orr.2.2 (by rw [valsOf_size]; omega) elh1 olh1.2.1 olh1.2.2 (hhs1 k hk6) hk6 X1.held X1.hown.2.1 X1.hown.2.2 X1.keyed hdu1 nduL zdu (by unfold sizeLine; omega)
    (fun e => by have := orr.1; rw [e, o1] at this; cases this) (fun e => by have := olh1.1; rw [e, o1] at this; cases this) (by
      rw [show ((k : Int) + 1 - 1).toNat = k by omega]
      simp [valsOf, hrec]) ko1.1 hu (by unfold sizeLine; omega) (by omega) (by omega) MO.recent m_size MO.held m_k rfl (by rw [valsOf_size]; omega) (fun h2 tk2 t2 F2 K2 ht2 nt2 nt2L zt2 hdu2 hd2 => ?_))
  -- the add
  have alive2 : ∀ b o, h1.get? b = some o → ∃ o', h2.get? b = some o' := fun b o e => by
    by_cases hb : b ∈ [L, due, (g k).hk]
    · simp only [List.mem_cons, List.not_mem_nil, or_false] at hb
      rcases hb with rfl | rfl | rfl
      · obtain ⟨o', _, _, e', _⟩ := F2.ns; exact ⟨o', e'⟩
      · exact ⟨_, hdu2⟩
      · exact ⟨_, hd2⟩
    · exact ⟨o, K2 b o e hb⟩
  have he2' : ∀ b o, h2.get? b = some o → norm h2 ow1 L b = ow1 b := norm_live hL1
  have he2 : ∀ b o, h1.get? b = some o → norm h2 ow1 L b = ow1 b := fun b o e => let ⟨o', e'⟩ := alive2 b o e; he2' b o' e'
  have hLn : ∀ b, h2.get? b = none → norm h2 ow1 L b = 98 := fun b e => norm_dead b (fun q => by obtain ⟨o, _, _, e', _⟩ := F2.ns; rw [q, e'] at e; cases e) e
  have ot2 : norm h2 ow1 L t2 = 98 := (he2' _ _ ht2).trans (dead1 t2 (fun e => by rw [e, hdu1] at nt2; cases nt2) nt2L (by
    cases e : s.heap.get? t2 with
    | none => rfl
    | some o => rw [K1 _ _ e (by simpa using nt2L)] at nt2; cases nt2))
  have hL2 : norm h2 ow1 L L = 99 := norm_L
  generalize hw2 : norm h2 ow1 L = ow2 at *
  have W2 := W1.ext he2 hL2
  have X2 := W2.ix k hk6
  have k2 := k1.ext he2
  have ko2 := ko1.ext he2
  have kl2 := klv.ext he2
  have o2 : ow2 due = 94 := (he2 _ _ hdu1).trans o1
  obtain ⟨nlc2, cs2, elc2, hcs2⟩ := W2.lc
  obtain ⟨gs2, TO2, hgs2⟩ := W2.tell
  have olc2 := W2.own98 S.lc (by simp)
  have hhk2 := X2.hown.1
  have hgk2 := X2.gown.1
  have ads2 : ∀ b ∈ [L, due, (g k).hk], ow2 b = 99 ∨ ow2 b = 94 ∨ ow2 b = 20 + k := by
    simp only [List.forall_mem_cons]
    exact ⟨.inl hL2, .inr (.inl o2), .inr (.inr hhk2), nofun⟩
  have up2 : ∀ b o, (ow2 b ≠ 99 ∧ ow2 b ≠ 94 ∧ ow2 b ≠ 20 + k) → h1.get? b = some o → h2.get? b = some o := fun b o n e => K2 b o e fun hm => by have := ads2 b hm; omega
  have TO2' : TellOk h2 ow2 h₀ L S.ft S.ct S.Pt cg S.lg S.tq gs2 := TO2.keep K2 (fun b hb => by have := ads2 b hb; omega) (fun _ _ _ => rfl)
  have C2 : CacheAt prog w h2 ow2 k h₀ L ((k : Int) + 1) (g k).gk (g k).c (g k).dc (g k).d (PP ++ [l]) := by
    have := X2.cache
    rw [hre] at this
    exact this.keepB K2 fun b hb => by have := ads2 b hb; omega
  have k2' : IsKeyW prog w h2 ow2 q key := k2.keepB K2 fun b hb => by have := ads2 b hb; omega
  refine wpAny_execs_cons (D3b B F2 X T hdp hun (by omega) ⟨by rw [hgk2]; omega, by rw [hgk2]; omega, by rw [hgk2]; omega⟩ hLn TO2' (hgs2 k hk6) C2 k2' (by rw [← hre]; exact hno) (up2 _ _ (by rw [olc2.1]; omega) elc2) olc2.2.1 olc2.2.2 (hcs2 k hk6) hk6 MT.key MO.caches m_k MT.turn MO.teller
    (up2 _ _ (by rw [hgk2]; omega) X2.gone) X2.gown.2 (by unfold sizeLine; omega) (by simp [hPP]) (by omega)
    (fun h3 tk3 ow3 r t F3 he3 hrk hri hrt C3 TO3 K3 hg3 ht3 nt3 tL t0 ot => ?_))
  have he3' : ∀ b o, h1.get? b = some o → ow3 b = ow2 b := fun b o e => let ⟨o', e'⟩ := alive2 b o e; he3 b o' e'
  obtain ⟨oLb, hLb⟩ : ∃ o, h1.get? L = some o := by obtain ⟨o, _, _, e, _⟩ := F1.ns; exact ⟨o, e⟩
  have hL3 : ow3 L = 99 := (he3' _ _ hLb).trans hL2
  have ads3 : ∀ b ∈ S.Pt :: (g k).gk :: (g k).c :: (g k).dc :: (g k).d :: adr (PP ++ [l]), ow2 b = 96 ∨ ow2 b = k ∨ ow2 b = 10 + k := fun b hb => by
    rcases List.mem_cons.mp hb with rfl | hb
    · exact .inl TO2.ownP
    · rcases List.mem_cons.mp hb with rfl | hb
      · exact .inr (.inr hgk2)
      · exact .inr (.inl (C2.own b hb).1)
  have up3 : ∀ b o, (ow2 b ≠ 96 ∧ ow2 b ≠ k ∧ ow2 b ≠ 10 + k) → h2.get? b = some o → h3.get? b = some o := fun b o n e => K3 b o e fun hm => by have := ads3 b hm; omega
  have ok98 : ∀ b, ow2 b = 98 → (ow2 b ≠ 96 ∧ ow2 b ≠ k ∧ ow2 b ≠ 10 + k) ∧ (ow2 b ≠ 99 ∧ ow2 b ≠ 94 ∧ ow2 b ≠ 20 + k) := fun b e => by rw [e]; omega
  have up13 : ∀ b o, ow2 b = 98 → h1.get? b = some o → h3.get? b = some o := fun b o n e => up3 b o (ok98 b n).1 (up2 b o (ok98 b n).2 e)
  have k3 : IsKeyW prog w h3 ow3 q key := by
    have := k2.ext he3'
    exact ⟨this.1.mono fun b o ev e _ => up13 b o (k2.2 b ev) e, this.2⟩
  have x3 : ∀ e ∈ (g k).xs, IsKeyW prog w h3 ow3 e.1 e.2.1 := fun e he => by
    have := (IsKeyW.ext ⟨X2.keyed.is e he, X2.ko e he⟩ he3' : IsKeyW prog w h1 ow3 e.1 e.2.1)
    exact ⟨this.1.mono fun b o ev g _ => up13 b o (X2.ko e he b ev) g, this.2⟩
  have olh2 := W2.own98 S.lh (by simp)
  have hno1 : q ∉ keysOf (g k).xs := fun hq => hno ((X2.keysOf_iff q).mp hq)
  have hno' : q ∉ keysOf (dropK (g k).xs oq) := fun hq => hno1 ((List.filter_sublist.map _).subset hq)
  have hdl : (dropK (g k).xs oq).length + 1 = (g k).xs.length := dropK_len X2.keyed.nodup (look_some_mem hu)
  refine wpAny_execs_cons (D4 B F3 X T hdp hun k3.1 (up13 _ _ olh2.1 elh1) olh2.2.1 olh2.2.2 (hhs1 k hk6) hk6 (up3 _ _ (by rw [hhk2]; omega) hd2) X2.hown.2.1 X2.hown.2.2 (keyed_drop ⟨fun e he => (x3 e he).1, X2.keyed.nodup⟩ oq) hno' (by unfold sizeLine; omega) MT.key MO.held m_k MT.turn
    (fun h4 tk4 F4 K4 hd4 => ?_))
  have ow3hk : ow3 (g k).hk = 20 + k := (he3' _ _ X2.held).trans hhk2
  have ow3gk : ow3 (g k).gk = 10 + k := (he3' _ _ X2.gone).trans hgk2
  have up4 : ∀ b o, ow3 b ≠ 99 → ow3 b ≠ 20 + k → h3.get? b = some o → h4.get? b = some o := fun b o n1 n2 e => K4 b o e (by
    simp only [List.mem_cons, List.not_mem_nil, or_false]
    rintro (rfl | rfl)
    · exact n1 hL3
    · exact n2 ow3hk)
  have up14 : ∀ b o, ow2 b = 98 → h1.get? b = some o → h4.get? b = some o := fun b o n e => by
    have q := (he3' b o e).trans n
    exact up4 b o (by rw [q]; omega) (by rw [q]; omega) (up13 b o n e)
  obtain ⟨og2, hcg2, dcg2⟩ := TO2.cell
  obtain ⟨ngl2, hgl2⟩ := TO2.list
  have hgk2' : gs2.toArray[k]? = some (.ref (g k).gk) := by simpa using hgs2 k hk6
  have ow3due : ow3 due = 94 := (he3 _ _ hdu2).trans o2
  have ow3t2 : ow3 t2 = 98 := (he3 _ _ ht2).trans ot2
  have hdu4 := up4 _ _ (by rw [ow3due]; omega) (by rw [ow3due]; omega) (up3 _ _ (by rw [o2]; omega) hdu2)
  have ht24 := up4 _ _ (by rw [ow3t2]; omega) (by rw [ow3t2]; omega) (up3 _ _ (by rw [ot2]; omega) ht2)
  have hg4 := up4 _ _ (by rw [ow3gk]; omega) (by rw [ow3gk]; omega) hg3
  have ht4 := up4 _ _ (by rw [ot]; omega) (by rw [ot]; omega) ht3
  have hne : t ≠ t2 := fun e => by rw [e, ht2] at nt3; cases nt3
  have kl4 : IsKey prog w h4 l.key l.kv := kl2.1.mono fun b o ev e _ => up14 b o (kl2.2 b ev) e
  have ko4 : IsKey prog w h4 l.key ov := by
    rw [hlo]
    exact ko2.1.mono fun b o ev e _ => up14 b o (ko2.2 b ev) e
  refine wpAny_execs_cons (D5 B F4 X T hdp hun (up14 _ _ (TO2.own98 _ (by simp)) hgl2) olg.1 olg.2 hgk2' hk6 hg4 hdu4 (.inr ⟨_, t, t2, l.key, l.kv, ov, l.i, l.vt, u, rfl, rfl, ht4, ht24, hne, kl4, ko4⟩) hcl (up14 _ _ (TO2.own98 _ (by simp)) hcg2) ocg.1 ocg.2 dcg2 m_k rfl (fun tk5 => ?_))
  refine wpAny_execs_nil ?_
  have k4 : IsKeyW prog w h4 ow3 q key := by
    have := k2.ext he3'
    exact ⟨this.1.mono fun b o ev e _ => up14 b o (k2.2 b ev) e, this.2⟩
  have x4 : ∀ e ∈ (g k).xs, IsKeyW prog w h4 ow3 e.1 e.2.1 := fun e he => by
    have := (IsKeyW.ext ⟨X2.keyed.is e he, X2.ko e he⟩ he3' : IsKeyW prog w h1 ow3 e.1 e.2.1)
    exact ⟨this.1.mono fun b o ev g _ => up14 b o (X2.ko e he b ev) g, this.2⟩
  have hndk : ∀ r' ∈ PP, r'.key ≠ oq := fun r' hr' e => by
    have := X2.cache.nodupK
    rw [hre, List.map_append, List.nodup_append] at this
    exact this.2.2 r'.key (List.mem_map.mpr ⟨r', hr', rfl⟩) l.key (by simp) (by rw [e, hlo])
  have X4 : IxAt prog w h4 ow3 h₀ L k { g k with recs := r :: PP, its := (g k).its.push (.ref t), ng := (g k).ng + 1, xs := dropK (g k).xs oq ++ [(q, key, .int turn tt)], nx := (g k).nx + 1 + 1 } := {
    cache := C3.keepB K4 (by
      simp only [List.forall_mem_cons]
      exact ⟨by rw [hL3]; omega, by rw [ow3hk]; omega, nofun⟩)
    gone := hg4
    gown := ⟨ow3gk, X2.gown.2⟩
    held := hd4
    hown := ⟨ow3hk, X2.hown.2⟩
    hsys := X2.hsys
    keyed := keyed_snoc (keyed_drop ⟨fun e he => (x4 e he).1, X2.keyed.nodup⟩ oq) k4.1 hno'
    ko := fun e he => by
      rcases List.mem_append.mp he with he | he
      · exact (x4 e (List.mem_filter.mp he).1).2
      · rw [List.mem_singleton.mp he]; exact k4.2
    hlen := by simp only [List.length_append, List.length_cons, List.length_nil]; omega
    hlook := fun r' hr' => by
      rcases List.mem_cons.mp hr' with rfl | hr'
      · exact ⟨tt, by rw [hrk, hri]; exact look_snoc_new (look_none_iff.mpr hno')⟩
      · obtain ⟨u', hu'⟩ := X2.hlook r' (by rw [hre]; exact List.mem_append_left _ hr')
        exact ⟨u', look_snoc _ (by rw [look_drop (hndk r' hr')]; exact hu')⟩ }
  refine ret h4 _ _ ow3 _ F4 ⟨MO.caches, MO.held, MO.teller, MO.recent, MO.cells⟩ ⟨MT.turn, MT.key, MT.far⟩
    (W2.step (ads := [L, due, (g k).hk] ++ ((S.Pt :: (g k).gk :: (g k).c :: (g k).dc :: (g k).d :: adr (PP ++ [l])) ++ [L, (g k).hk])) hk6 he3' hL3 (fun b o e n => ?_) (fun b hb => ?_) X4 rfl rfl rfl ⟨gs2, TO3.keep K4 (by
      simp only [List.forall_mem_cons]
      exact ⟨by rw [hL3]; omega, by rw [ow3hk]; omega, nofun⟩) (fun _ _ _ => rfl), hgs2⟩) k4 (fun b o e e95 => ?_) (by simp [hrk]) (by simp)
  · rw [List.mem_append, List.mem_append, not_or, not_or] at n
    exact K4 b o (K3 b o (K2 b o e n.1) n.2.1) n.2.2
  · unfold OfK
    rcases List.mem_append.mp hb with hb | hb
    · have := ads2 b hb; omega
    · rcases List.mem_append.mp hb with hb | hb
      · have := ads3 b hb; omega
      · simp only [List.mem_cons, List.not_mem_nil, or_false] at hb
        rcases hb with rfl | rfl
        · omega
        · omega
  · have e1 : h1.get? b = some o := K1 b o e (by
      simp only [List.mem_cons, List.not_mem_nil, or_false]
      rintro rfl
      rw [W.oL] at e95; cases e95)
    have z1 := (he1 _ _ e).trans e95
    have z2 := (he2 _ _ e1).trans z1
    have z3 := (he3' _ _ e1).trans z2
    exact ⟨up4 b o (by rw [z3]; omega) (by rw [z3]; omega) (up3 b o (by rw [z2]; omega) (up2 b o (by rw [z2]; omega) e1)), z3⟩
end
end Mine
end
section
set_option maxRecDepth 100000
set_option linter.unusedVariables false
namespace Mine
open PySem PySem.W PySem.Spec PySem.Calls PyProof.Rows
/-! the plain law: what a request does to the order of the keys -/
def newKeys (keys : List Key) (q : Key) : List Key := q :: keys.filter fun x => !decide (x = q)
theorem filter_ne_self {l : List Key} {q : Key} (h : q ∉ l) : (l.filter fun x => !decide (x = q)) = l := List.filter_eq_self.mpr fun x hx => by
  have : x ≠ q := fun e => h (e ▸ hx)
  simp [this]
theorem newKeys_new {keys : List Key} {q : Key} (h : q ∉ keys) : newKeys keys q = q :: keys := by rw [newKeys, filter_ne_self h]
theorem newKeys_mid {A R : List Key} {q : Key} (hn : (A ++ q :: R).Nodup) : newKeys (A ++ q :: R) q = q :: (A ++ R) := by
  obtain ⟨_, h2, h3⟩ := List.nodup_append.mp hn
  rw [List.nodup_cons] at h2
  have hA : q ∉ A := fun h => h3 q h q (.head _) rfl
  rw [newKeys, List.filter_append, List.filter_cons, filter_ne_self hA, filter_ne_self h2.1]
  simp
theorem newKeys_nodup {keys : List Key} {q : Key} (hn : keys.Nodup) : (newKeys keys q).Nodup := by
  rw [newKeys, List.nodup_cons]
  refine ⟨fun h => ?_, List.filter_sublist.nodup hn⟩
  have := (List.mem_filter.mp h).2
  simp at this
/-- a hit among the k + 1 asked for last -/
theorem keys_hit {keys A R : List Key} {q : Key} {k : Nat} (hn : keys.Nodup) (h : keys.take (k + 1) = A ++ q :: R) : (newKeys keys q).take (k + 1) = q :: (A ++ R) := by
  have e : keys = A ++ q :: (R ++ keys.drop (k + 1)) := by
    conv => lhs; rw [← List.take_append_drop (k + 1) keys, h]
    simp
  rw [e] at hn
  have e2 : newKeys keys q = q :: (A ++ (R ++ keys.drop (k + 1))) := by
    conv => lhs; rw [e]
    exact newKeys_mid hn
  rw [e2, List.take_succ_cons]
  congr 1
  have hl := congrArg List.length h
  simp only [List.length_take, List.length_append, List.length_cons] at hl
  rw [← List.append_assoc]
  by_cases hk : k + 1 ≤ keys.length
  · rw [List.take_append_of_le_length (by simp only [List.length_append]; omega), List.take_of_length_le (by simp only [List.length_append]; omega)]
  · have : keys.drop (k + 1) = [] := List.drop_of_length_le (by omega)
    rw [this, List.append_nil, List.take_of_length_le (by simp only [List.length_append]; omega)]
/-- a miss where there is room -/
theorem keys_room {keys : List Key} {q : Key} {k : Nat} (h : q ∉ keys.take (k + 1)) (hl : keys.length < k + 1) : (newKeys keys q).take (k + 1) = q :: keys.take (k + 1) := by
  have e : keys.take (k + 1) = keys := List.take_of_length_le (by omega)
  rw [e] at h ⊢
  rw [newKeys_new h, List.take_of_length_le (by simp only [List.length_cons]; omega)]
/-- a miss in a full cache -/
theorem keys_full {keys PP : List Key} {q l : Key} {k : Nat} (hn : keys.Nodup) (h : keys.take (k + 1) = PP ++ [l]) (hp : PP.length = k) (hq : q ∉ PP ++ [l]) : (newKeys keys q).take (k + 1) = q :: PP := by
  rw [newKeys, List.take_succ_cons]
  congr 1
  have e : keys = PP ++ (l :: keys.drop (k + 1)) := by
    conv => lhs; rw [← List.take_append_drop (k + 1) keys, h]
    simp
  have hP : q ∉ PP := fun h => hq (List.mem_append_left _ h)
  rw [e, List.filter_append, filter_ne_self hP, List.take_append_of_le_length (by omega), List.take_of_length_le (by omega)]
end Mine
end
section
theorem Mine.off_LawI1 : True := by w_top off; exact True.intro
set_option maxRecDepth 100000
set_option linter.unusedVariables false
set_option linter.unusedSectionVars false
set_option maxHeartbeats 1000000
namespace Mine
open PySem PySem.W PySem.Spec PySem.Calls PyProof.Rows
theorem fillI1 : (PySem.Challenge.rw_bb0035_01 = PySem.Challenge.rw_bb0035_01) ∧ (hd.heap_39 = hd.heap_39) := by k_fill; exact ⟨rfl, rfl⟩
local macro_rules | `(tactic| k_room) => `(tactic| ktr_room)
local macro_rules | `(tactic| k_units) => `(tactic| ktr_units)
local macro_rules | `(tactic| k_mem) => `(tactic| with_reducible assumption)
local macro_rules | `(tactic| walk_at "eval Name") => `(tactic| (k_here; k_dflt (refine' nameX_L ?F ?v ?_ ?a ?b; (case F => k_asm); (case a => rfl); (case b => rfl); (case v => with_reducible assumption); k_whole)))
local macro_rules | `(tactic| walk_at "subscriptTail") => `(tactic| (k_here; (with_reducible show wpAny _ _ (subscriptTail _ _ (Value.ref _) (Value.int _ _)) _ _ _); k_dflt (refine' item_mem ?F ?l ?a ?b ?c ?_ ?d; (case F => k_asm); (case l => k_mem); (case a => k_asm); (case b => k_asm); (case c => k_asm); (case d => with_unfolding_all rfl); k_whole)))
local macro_rules | `(tactic| walk_at "call ref") => `(tactic| ((with_reducible show wpAny _ _ (call (Value.ref 79) _) _ _ _); refine Hold.intro ?_))
section
variable {prog : Program} {w : World} {p : Program} {loose : List Str} {mean : ExcName → Option Value} {mg mb : Str → Option Value}
  {dp un : Nat} {gd : Option (List Code)} {cn : Str} {a : Addr} {ccd : Value} {cl : List (Str × Addr)} {outer : List Env} {A₀ : Around} {base h₀ : Heap} {L : Addr} {m : Str → Option Value} {s : Shared} {Q : Flow → Shared → Prop} {E : Value → Shared → Prop}
  {ow : Addr → Nat} {k : Nat} {M : Int} {gk c dc d : Addr} {recs : List Rec} {q : Key} {key : Value} {tk tf ts tt : Tok} {far size turn : Int} {lc : Addr} {cs : Array Value} {nc : Nat}
variable (B : Below A₀ base outer h₀) (F : Fr h₀ L s.heap m) (X : (hd.heap_39 w.params).In h₀) (T : Top p loose mean mg mb h₀) (hdp : dp + 100 < recursionLimit) (hun : un + 1000 < cLine)
include B F X T hdp hun

theorem I1 (m_k : m (Str.ofString "k") = some (.int k tk)) (hk6 : k < 6)
    (ret : ∀ h' tk' t, Fr h₀ L h' (fun y => if y = Str.ofString "size" then some (.int (k + 1) t) else m y) → Keep s.heap h' [L] → Q .next { s with heap := h', toks := tk' }) :
    wpAny (model prog w) (ktrTop dp un gd cn lawScope L a ccd cl outer) (exec (nth innerB 0) (envX cn lawScope L a ccd cl)) Q E s := by
  conv =>
    arg 3
    arg 1
    whnf
  have N := alive_news (h₀ := h₀) (L := L) (h := s.heap) []
  have F9 := F.keep
  k_steps
  (rename Fr _ _ _ _ => F8); (rename News _ _ _ _ => N8)
  exact ret _ _ _ F8 (keep_alive F9 F8 N8 fun _ hp => hp)

theorem I2 (hk98 : k ≠ 98) (C : CacheAt prog w s.heap ow k h₀ L M gk c dc d recs) (hkx : IsKey prog w s.heap q key)
    (hlc : s.heap.get? lc = some (listOf cs nc)) (nlc : lc ≠ L) (zlc : h₀.get? lc = none) (hck : cs[k]? = some (.ref c)) (hk6 : k < 6)
    (m_key : m (Str.ofString "key") = some key) (m_caches : m (Str.ofString "caches") = some (.ref lc)) (m_k : m (Str.ofString "k") = some (.int k tk)) (m_far : m (Str.ofString "far") = some (.int far tf)) (m_size : m (Str.ofString "size") = some (.int size ts))
    (hb : decide (q ∈ recs.map (·.key)) = decide (far < size))
    (ret : ∀ h' tk', Fr h₀ L h' m → CacheAt prog w h' ow k h₀ L M gk c dc d recs → Keep s.heap h' (c :: dc :: d :: adr recs) → Q .next { s with heap := h', toks := tk' }) :
    wpAny (model prog w) (ktrTop dp un gd cn lawScope L a ccd cl outer) (exec (nth innerB 1) (envX cn lawScope L a ccd cl)) Q E s := by
  conv =>
    arg 3
    arg 1
    whnf
  have N := alive_news (h₀ := h₀) (L := L) (h := s.heap) []
  have m1 := in_alive (ads := []) hlc nlc zlc (by simp)
  have m2 := in_alive (ads := []) C.inst (C.own _ (by simp)).2.1 (C.own _ (by simp)).2.2 (by simp)
  obtain ⟨tc1, tc2, tc3, tc4, tc5, tm, ta, hdc⟩ := C.dict
  have m3 := in_alive (ads := []) hdc (C.own _ (by simp)).2.1 (C.own _ (by simp)).2.2 (by simp)
  have hk0 : (0 : Int) ≤ (k : Int) := by omega
  have hk1 : (k : Int) < 2 ^ 63 := by omega
  have hk2 : cs[(k : Int).toNat]? = some (.ref c) := hck
  k_steps
  unfold held
  refine C_has B F X T rfl (by omega) (by omega) hk98 C hkx hb (fun h9 tk9 F9 C9 K9 => ?_)
  have N9 := alive_news (h₀ := h₀) (L := L) (h := h9) []
  clear F N m1 m2 m3
  k_steps
  · rename_i e; rw [bne_self_eq_false] at e; cases e
  · exact ret _ _ F9 C9 K9
end
end Mine
end
section
theorem Mine.off_LawI3 : True := by w_top off; exact True.intro
set_option maxRecDepth 100000
set_option linter.unusedVariables false
set_option linter.unusedSectionVars false
set_option maxHeartbeats 1000000
namespace Mine
open PySem PySem.W PySem.Spec PySem.Calls PyProof.Rows
theorem fillI3 : (PySem.Challenge.rw_bb0035_01 = PySem.Challenge.rw_bb0035_01) ∧ (hd.heap_39 = hd.heap_39) := by k_fill; exact ⟨rfl, rfl⟩
local macro_rules | `(tactic| k_room) => `(tactic| ktr_room)
local macro_rules | `(tactic| k_units) => `(tactic| ktr_units)
local macro_rules | `(tactic| k_mem) => `(tactic| with_reducible assumption)
local macro_rules | `(tactic| walk_at "eval Name") => `(tactic| (k_here; k_dflt (refine' nameX_L ?F ?v ?_ ?a ?b; (case F => k_asm); (case a => rfl); (case b => rfl); (case v => with_reducible assumption); k_whole)))
local macro_rules | `(tactic| walk_at "subscriptTail") => `(tactic| (k_here; (with_reducible show wpAny _ _ (subscriptTail _ _ (Value.ref _) (Value.int _ _)) _ _ _); k_dflt (refine' item_mem ?F ?l ?a ?b ?c ?_ ?d; (case F => k_asm); (case l => k_mem); (case a => k_asm); (case b => k_asm); (case c => k_asm); (case d => with_unfolding_all rfl); k_whole)))
local macro_rules | `(tactic| walk_at "call ref") => `(tactic| ((with_reducible show wpAny _ _ (call (Value.ref 116) _) _ _ _); refine Hold.intro ?_))
local macro_rules | `(tactic| walk_at "call ref") => `(tactic| ((with_reducible show wpAny _ _ (call (Value.ref 86) _) _ _ _); refine Hold.intro ?_))
section
variable {prog : Program} {w : World} {p : Program} {loose : List Str} {mean : ExcName → Option Value} {mg mb : Str → Option Value}
  {dp un : Nat} {gd : Option (List Code)} {cn : Str} {a : Addr} {ccd : Value} {cl : List (Str × Addr)} {outer : List Env} {A₀ : Around} {base h₀ : Heap} {L : Addr} {m : Str → Option Value} {s : Shared} {Q : Flow → Shared → Prop} {E : Value → Shared → Prop}
  {ow : Addr → Nat} {k : Nat} {M : Int} {gk c dc d : Addr} {recs : List Rec} {q : Key} {key : Value} {tk tf ts tt : Tok} {far size turn : Int} {lc : Addr} {cs : Array Value} {nc : Nat}
variable (B : Below A₀ base outer h₀) (F : Fr h₀ L s.heap m) (X : (hd.heap_39 w.params).In h₀) (T : Top p loose mean mg mb h₀) (hdp : dp + 100 < recursionLimit) (hun : un + 1000 < cLine)
include B F X T hdp hun

theorem I3h {AA R : List Rec} {x : Rec} {lv : Addr} {cv : Array Value} {nv : Nat} {v : Int} {tv : Tok}
    (hk98 : k ≠ 98) (hoL : ow L = 99) (C : CacheAt prog w s.heap ow k h₀ L M gk c dc d (AA ++ x :: R)) (hkx : IsKey prog w s.heap x.key key)
    (hlc : s.heap.get? lc = some (listOf cs nc)) (nlc : lc ≠ L) (zlc : h₀.get? lc = none) (hck : cs[k]? = some (.ref c)) (hk6 : k < 6)
    (hlv : s.heap.get? lv = some (listOf cv nv)) (nlv : lv ≠ L) (zlv : h₀.get? lv = none) (htu : 0 ≤ turn) (htu2 : turn < 24) (hcv : cv[turn.toNat]? = some (.int v tv))
    (m_key : m (Str.ofString "key") = some key) (m_caches : m (Str.ofString "caches") = some (.ref lc)) (m_k : m (Str.ofString "k") = some (.int k tk)) (m_cells : m (Str.ofString "cells") = some (.ref lv)) (m_turn : m (Str.ofString "turn") = some (.int turn tt))
    (ret : ∀ h' tk', Fr h₀ L h' (fun y => if y = Str.ofString "value" then some (.int x.i x.vt) else m y) → CacheAt prog w h' ow k h₀ L M gk c dc d (x :: (AA ++ R)) → Keep s.heap h' (L :: c :: dc :: d :: adr (AA ++ x :: R)) → Q .next { s with heap := h', toks := tk' }) :
    wpAny (model prog w) (ktrTop dp un gd cn lawScope L a ccd cl outer) (exec (nth innerB 2) (envX cn lawScope L a ccd cl)) Q E s := by
  conv =>
    arg 3
    arg 1
    whnf
  have N := alive_news (h₀ := h₀) (L := L) (h := s.heap) []
  have m1 := in_alive (ads := []) hlc nlc zlc (by simp)
  have m4 := in_alive (ads := []) hlv nlv zlv (by simp)
  have m2 := in_alive (ads := []) C.inst (C.own _ (by simp)).2.1 (C.own _ (by simp)).2.2 (by simp)
  obtain ⟨tc1, tc2, tc3, tc4, tc5, tm, ta, hdc⟩ := C.dict
  have m3 := in_alive (ads := []) hdc (C.own _ (by simp)).2.1 (C.own _ (by simp)).2.2 (by simp)
  have hk0 : (0 : Int) ≤ (k : Int) := by omega
  have hk1 : (k : Int) < 2 ^ 63 := by omega
  have ht1 : turn < 2 ^ 63 := by omega
  have hk2 : cs[(k : Int).toNat]? = some (.ref c) := hck
  have F9 := F.keep
  k_steps
  · unfold held
    refine C_get B F X T rfl (by first | omega | (dsimp only [ktrTop]; omega)) (by first | omega | (dsimp only [ktrTop]; omega)) hk98 C hkx (fun h9 tk9 F9 C9 K9 => ?_)
    have N9 := alive_news (h₀ := h₀) (L := L) (h := h9) []
    have S9 := F9.keep
    clear F N m1 m2 m3 m4
    k_steps
    (rename Fr _ _ _ _ => F8); (rename News _ _ _ _ => N8)
    have K8 := keep_alive S9 F8 N8 fun _ hp => hp
    refine ret _ _ F8 (C9.keepL K8 hoL hk6) (K9.thenL K8)
  · refine wpAny_Try_except ?_
    k_steps
    unfold held
    refine C_item B F X T rfl (by first | omega | (dsimp only [ktrTop]; omega)) (by first | omega | (dsimp only [ktrTop]; omega)) hk98 C hkx (fun h9 tk9 F9 C9 K9 => ?_)
    have N9 := alive_news (h₀ := h₀) (L := L) (h := h9) []
    have S9 := F9.keep
    clear F N m1 m2 m3 m4
    k_steps
    (rename Fr _ _ _ _ => F8); (rename News _ _ _ _ => N8)
    have K8 := keep_alive S9 F8 N8 fun _ hp => hp
    refine ret _ _ F8 (C9.keepL K8 hoL hk6) (K9.thenL K8)
end
end Mine
end
section
set_option maxRecDepth 100000
set_option linter.unusedVariables false
namespace Mine
open PySem PySem.W PySem.Spec PySem.Calls PyProof.Rows
/-- the keys of the ledger of everything alive, in a later frame -/
theorem key_alive {prog : Program} {w : World} {h₀ g h hs : Heap} {L L' : Addr} {m m' : Str → Option Value} {k : Key} {v : Value} (F : Fr g L' h m') (N : News g L' h (alive h₀ L hs [])) (st : h₀.StaysIn g) (h0 : h₀.StaysIn hs) (FL : hs.Ns L m) (x : IsKey prog w hs k v) : IsKey prog w h k v := by
  have keep : ∀ a o, a ≠ L → hs.get? a = some o → h.get? a = some o := fun a o hL e => by
    cases q : h₀.get? a with
    | some o' =>
      have := h0 a o' q
      rw [e] at this
      rw [Option.some.inj this]
      exact F.keep _ _ (st _ _ q)
    | none => exact (N _ (in_alive e hL q (by simp))).1
  cases x with
  | int i t => exact .int i t
  | str x t => exact .str x t
  | bytes b t => exact .bytes b t
  | tup y =>
    obtain ⟨o, items, n, ho, hc, hd, r⟩ := y
    refine .tup ⟨o, items, n, keep _ _ (fun e => ?_) ho, hc, hd, r⟩
    subst e
    obtain ⟨oL, es, ep, hL, hLd, _⟩ := FL
    rw [ho] at hL
    rw [← Option.some.inj hL, hd] at hLd
    cases hLd
theorem sub_missing9 {prog : Program} {w : World} {A : Around} {E : Value → Shared → Prop} {s : Shared} {h₀ g hs : Heap} {L L' d : Addr} {m m' : Str → Option Value} {n : Nat} {xs : Ents} {k : Key} {key : Value} {Q : Value → Shared → Prop} {value slice : PySem.Expr}
    (F : Fr g L' s.heap m') (N : News g L' s.heap (alive h₀ L hs [])) (st : h₀.StaysIn g) (h0 : h₀.StaysIn hs) (FL : hs.Ns L m) (hm : (d, dictK w xs n) ∈ alive h₀ L hs []) (hkey : IsKey prog w hs k key) (hx : Keyed prog w hs xs) (hd : (d == sysModules) = false) (hh : A.handled = none) (hp : look xs k = none) (hu : A.in1.units < cLine)
    (hs' : subscripted slice false (.ref d) key = operate [.ref d, key] (getItem (.ref d) key)) (h : ∀ h' e tk, Heap.NewExc s.heap h' e "KeyError" → E (.ref e) { s with heap := h', toks := tk }) : wpAny (model prog w) A (subscriptTail value slice (.ref d) key) Q E s :=
  tail_any (typeIs_dictK (N.get hm)) slot_dict_getitem.lookup (getItem_missing_key hu (key_alive F N st h0 FL hkey) hd hh (N.get hm) ⟨fun y hy => key_alive F N st h0 FL (hx.is y hy), hx.nodup⟩ hp h) hs'
/-- a KeyError that a callee let out, caught in the law's frame -/
theorem caught_X {prog : Program} {w : World} {s' : Shared} {g h₀ : Heap} {outer : List Env} {L a e : Addr} {m : Str → Option Value} {name : Str} {scope : Scope} {ccd : Value} {cl : List (Str × Addr)} {dp un : Nat} {gd : Option (List Code)}
  {b₀ : Stmt} {suite : List Stmt} {pos np : Pos} {rest : List ExceptHandler} {Q : Flow → Shared → Prop} {E : Value → Shared → Prop} {news : List (Addr × Obj)} {K : Frag} {p : Program} {loose : List Str} {mean : ExcName → Option Value} {mg mb : Str → Option Value}
    (F : Fr h₀ L g m) (hsm : g.UpToSlots s'.heap) (R : RaisedN h₀ (envX name scope L a ccd cl :: outer) e (.type "KeyError") news s'.heap) (X : K.In h₀) (T : Top p loose mean mg mb h₀) (hn : nsIn K mainGlobals (Str.ofString "KeyError") = some none)
    (k : ∀ h', Fr h₀ L h' m → News h₀ L h' news → wpAny (model prog w) ((ktrTop dp un gd name scope L a ccd cl outer).mark (some (.ref e))) (execs (b₀ :: suite) (envX name scope L a ccd cl)) Q (fun _ _ => False) { s' with heap := h' })
    (hk : scope.kind = .function) (hx : (envX name scope L a ccd cl).kindOf (Str.ofString "KeyError") = some .globalImplicit) :
    wpAny (model prog w) (ktrTop dp un gd name scope L a ccd cl outer) (noteFrame (.ref e) (envX name scope L a ccd cl))
      (fun _ s₂ => wpAny (model prog w) (ktrTop dp un gd name scope L a ccd cl outer) (setFlight (.ref e) none) (fun _ s₃ =>
        wpAny (model prog w) (ktrTop dp un gd name scope L a ccd cl outer) (handleBy (.ref e) (envX name scope L a ccd cl) (.ExceptHandler (some (.Name (Str.ofString "KeyError") np)) none (b₀ :: suite) pos :: rest)) Q E s₃) E s₂) E s' := by
  obtain ⟨B, a0, hB, hl, hfl⟩ := R
  have hL : B.get? L = none := by
    obtain ⟨_, ⟨L', _, hf, hn', _⟩, _⟩ := hfl.2.2.1
    cases hf
    exact hn'
  refine wpAny_looks_onW rfl rfl hfl fun h₄ hheld₄ hsm₄ => ?_
  refine wpAny_landsW hheld₄ fun h₅ hheld hsm₅' => ?_
  have hsm₅ := hsm₄.trans hsm₅'
  have hheld' := flyingW_base hB hheld
  have F₅ := F.of_stays hheld'.1 (hsm.trans hsm₅)
  obtain ⟨ob, hob, hobc⟩ := hheld'.there
  refine wpAny_handleBy_builtin (X := "KeyError") (T := "KeyError") (b := true) kr_isExc_KeyError kr_notTuple_KeyError (by rw [isSubtype_type]; kernel_rfl) ?_
  refine nameX_B F₅ X (topRead_of T) hn PyProof.Rows.Boot.«KeyError» (by decide) ⟨rfl, ⟨ob, hob, hobc⟩, ?_⟩ hk hx (by decide)
  refine lands_againW hheld fun h₆ hfl₆ hsm₆ => ?_
  have F₆ := F.of_stays (flyingW_base hB hfl₆).1 ((hsm.trans hsm₅).trans hsm₆)
  exact wpAny_noRaise (k h₆ F₆ fun q hq => ⟨hfl₆.1 _ _ (hl q hq).1, (fun z => by have := (hl q hq).1; rw [z, hL] at this; cases this), (hl q hq).2⟩)
end Mine
end
section
theorem Mine.off_LawI3m : True := by w_top off; exact True.intro
set_option maxRecDepth 100000
set_option linter.unusedVariables false
set_option linter.unusedSectionVars false
set_option maxHeartbeats 1000000
namespace Mine
open PySem PySem.W PySem.Spec PySem.Calls PyProof.Rows
theorem fillI3m : (PySem.Challenge.rw_bb0035_01 = PySem.Challenge.rw_bb0035_01) ∧ (hd.heap_39 = hd.heap_39) := by k_fill; exact ⟨rfl, rfl⟩
local macro_rules | `(tactic| k_room) => `(tactic| ktr_room)
local macro_rules | `(tactic| k_units) => `(tactic| ktr_units)
local macro_rules | `(tactic| k_mem) => `(tactic| with_reducible assumption)
local macro_rules | `(tactic| walk_at "eval Name") => `(tactic| (k_here; k_dflt (refine' nameX_L ?F ?v ?_ ?a ?b; (case F => k_asm); (case a => rfl); (case b => rfl); (case v => with_reducible assumption); k_whole)))
local macro_rules | `(tactic| walk_at "subscriptTail") => `(tactic| (k_here; (with_reducible show wpAny _ _ (subscriptTail _ _ (Value.ref _) (Value.int _ _)) _ _ _); k_dflt (refine' item_mem ?F ?l ?a ?b ?c ?_ ?d; (case F => k_asm); (case l => k_mem); (case a => k_asm); (case b => k_asm); (case c => k_asm); (case d => with_unfolding_all rfl); k_whole)))
local macro_rules | `(tactic| walk_at "call ref") => `(tactic| ((with_reducible show wpAny _ _ (call (Value.ref 116) _) _ _ _); refine Hold.intro ?_))
local macro_rules | `(tactic| walk_at "call ref") => `(tactic| ((with_reducible show wpAny _ _ (call (Value.ref 86) _) _ _ _); refine Hold.intro ?_))
local macro_rules | `(tactic| walk_at "noteFrame ref") => `(tactic| (k_here; refine Hold.intro ?_))
local macro_rules | `(tactic| ktr_enter) => `(tactic| (refine' code_def ?k1 ?k2 ?k3 ?k4 ?k5 ?kA ?kF ?kK ?k6 ?k7 ?k8 ?k9 ?kB ?_ ?c2 ?c3 ?c4 ?c5; (case kA => exact rfl); (case kF => exact rfl); (case kK => assumption); (case k1 => k_asm); (case k2 => k_asm); (case k3 => k_asm); (case k4 => k_asm); (case k5 => k_asm); (case k6 => k_is); (case k7 => k_is); (case k8 => ktr_room); (case k9 => first | exact BindsTo.of_eq rfl | exact binds_K (by k_in) rfl (by k_is) rfl rfl rfl); (case c5 => decide); (case kB => exact locs rfl); (case c2 => exact rfl); (case c3 => exact rfl); (case c4 => exact rfl); k_whole; intro g' L' h' FG' F' N' B' X' T'; (try dsimp only); (try k_fold)))
local macro_rules | `(tactic| walk_at "subscriptTail") => `(tactic| (k_here; (with_reducible show wpAny _ _ (subscriptTail _ _ (Value.ref _) _) _ _ _); k_dflt (refine' sub_missing9 ?F ?N ?st ?h0 ?FL ?hm ?hk ?hx ?hd ?hh ?hp ?hu ?hs ?_; (case F => k_asm); (case N => k_asm); (case st => with_reducible assumption); (case h0 => with_reducible assumption); (case FL => with_reducible assumption); (case hm => k_mem); (case hk => with_reducible assumption); (case hx => with_reducible assumption); (case hd => with_reducible assumption); (case hh => exact rfl); (case hp => with_reducible assumption); (case hu => ktr_units); (case hs => with_unfolding_all rfl); k_whole); intro h' e' tk' x'))
section
variable {prog : Program} {w : World} {p : Program} {loose : List Str} {mean : ExcName → Option Value} {mg mb : Str → Option Value}
  {dp un : Nat} {gd : Option (List Code)} {cn : Str} {a : Addr} {ccd : Value} {cl : List (Str × Addr)} {outer : List Env} {A₀ : Around} {base h₀ : Heap} {L : Addr} {m : Str → Option Value} {s : Shared} {Q : Flow → Shared → Prop} {E : Value → Shared → Prop}
  {ow : Addr → Nat} {k : Nat} {M : Int} {gk c dc d : Addr} {recs : List Rec} {q : Key} {key : Value} {tk tf ts tt : Tok} {far size turn : Int} {lc : Addr} {cs : Array Value} {nc : Nat}
variable (B : Below A₀ base outer h₀) (F : Fr h₀ L s.heap m) (X : (hd.heap_39 w.params).In h₀) (T : Top p loose mean mg mb h₀) (hdp : dp + 100 < recursionLimit) (hun : un + 1000 < cLine)
include B F X T hdp hun

theorem I3m {lv : Addr} {cv : Array Value} {nv : Nat} {v : Int} {tv : Tok} (hBase : h₀ = base)
    (hk98 : k ≠ 98) (hoL : ow L = 99) (C : CacheAt prog w s.heap ow k h₀ L M gk c dc d recs) (hkx : IsKey prog w s.heap q key) (hno : q ∉ recs.map (·.key))
    (hlc : s.heap.get? lc = some (listOf cs nc)) (nlc : lc ≠ L) (zlc : h₀.get? lc = none) (hck : cs[k]? = some (.ref c)) (hk6 : k < 6)
    (hlv : s.heap.get? lv = some (listOf cv nv)) (nlv : lv ≠ L) (zlv : h₀.get? lv = none) (htu : 0 ≤ turn) (htu2 : turn < 24) (hcv : cv[turn.toNat]? = some (.int v tv))
    (m_key : m (Str.ofString "key") = some key) (m_caches : m (Str.ofString "caches") = some (.ref lc)) (m_k : m (Str.ofString "k") = some (.int k tk)) (m_cells : m (Str.ofString "cells") = some (.ref lv)) (m_turn : m (Str.ofString "turn") = some (.int turn tt))
    (ret : ∀ h' tk' t, Fr h₀ L h' (fun y => if y = Str.ofString "value" then some (.str (Str.ofString "none") t) else m y) → CacheAt prog w h' ow k h₀ L M gk c dc d recs → Keep s.heap h' (L :: c :: dc :: d :: adr recs) → Q .next { s with heap := h', toks := tk' }) :
    wpAny (model prog w) (ktrTop dp un gd cn lawScope L a ccd cl outer) (exec (nth innerB 2) (envX cn lawScope L a ccd cl)) Q E s := by
  subst hBase
  conv =>
    arg 3
    arg 1
    whnf
  have N := alive_news (h₀ := h₀) (L := L) (h := s.heap) []
  have m1 := in_alive (ads := []) hlc nlc zlc (by simp)
  have m4 := in_alive (ads := []) hlv nlv zlv (by simp)
  have m2 := in_alive (ads := []) C.inst (C.own _ (by simp)).2.1 (C.own _ (by simp)).2.2 (by simp)
  obtain ⟨tc1, tc2, tc3, tc4, tc5, tm, ta, hdc⟩ := C.dict
  obtain ⟨xs, n, hdd, hxs, hxo, hxl, hxk⟩ := C.ents
  have m3 := in_alive (ads := []) hdc (C.own _ (by simp)).2.1 (C.own _ (by simp)).2.2 (by simp)
  have m5 := in_alive (ads := []) hdd (C.own _ (by simp)).2.1 (C.own _ (by simp)).2.2 (by simp)
  have hlk : look xs q = none := look_none_iff.mpr fun hq => hno ((C.keysOf_iff hxl hxk q).mp hq)
  have hsy := C.sysd
  have hk0 : (0 : Int) ≤ (k : Int) := by omega
  have hk1 : (k : Int) < 2 ^ 63 := by omega
  have ht1 : turn < 2 ^ 63 := by omega
  have hk2 : cs[(k : Int).toNat]? = some (.ref c) := hck
  have hkf : (envX cn lawScope L a ccd cl).scope.kind = ScopeKind.function := rfl
  have S0 : h₀.StaysIn s.heap := F.keep
  k_steps
  · unfold held
    refine C_miss B F X T rfl (by first | omega | (dsimp only [ktrTop]; omega)) (by first | omega | (dsimp only [ktrTop]; omega)) hk98 C hkx hno (fun h9 tk9 F9 C9 K9 => ?_)
    have N9 := alive_news (h₀ := h₀) (L := L) (h := h9) []
    have S9 := F9.keep
    clear F N m1 m2 m3 m4 m5
    k_steps
    (rename Fr _ _ _ _ => F8); (rename News _ _ _ _ => N8)
    have K8 := keep_alive S9 F8 N8 fun _ hp => hp
    exact ret _ _ _ F8 (C9.keepL K8 hoL hk6) (K9.thenL K8)
  · refine wpAny_Try_except ?_
    k_steps
    unfold held
    refine wpAny_call ?_
    k_dflt ktr_enter
    have FL := F.ns
    (rename Fr h₀ L _ m => FG)
    have st9 : Heap.StaysIn h₀ _ := FG.keep
    k_steps
    unfold held
    (rename RaisedN _ _ _ _ _ _ => R9)
    (rename Heap.UpToSlots _ _ => U9)
    refine caught_X FG U9 R9 X T (by k_is) (fun h8 F8 N8 => ?_) rfl rfl
    have FS := S0
    clear F FG N
    k_steps
    (rename Fr h₀ L _ _ => F8); (rename News h₀ L _ _ => N8)
    have K8 := keep_alive S0 F8 N8 fun _ hp => hp
    exact ret _ _ _ F8 (C.keepL K8 hoL hk6) (K8.weaken (by simp))
end
end Mine
end
section
theorem Mine.off_LawI4 : True := by w_top off; exact True.intro
set_option maxRecDepth 100000
set_option linter.unusedVariables false
set_option linter.unusedSectionVars false
set_option maxHeartbeats 1000000
namespace Mine
open PySem PySem.W PySem.Spec PySem.Calls PyProof.Rows
theorem fillI4 : (PySem.Challenge.rw_bb0035_01 = PySem.Challenge.rw_bb0035_01) ∧ (hd.heap_39 = hd.heap_39) := by k_fill; exact ⟨rfl, rfl⟩
local macro_rules | `(tactic| k_room) => `(tactic| ktr_room)
local macro_rules | `(tactic| k_units) => `(tactic| ktr_units)
local macro_rules | `(tactic| k_mem) => `(tactic| with_reducible assumption)
local macro_rules | `(tactic| walk_at "eval Name") => `(tactic| (k_here; k_dflt (refine' nameX_L ?F ?v ?_ ?a ?b; (case F => k_asm); (case a => rfl); (case b => rfl); (case v => with_reducible assumption); k_whole)))
local macro_rules | `(tactic| walk_at "subscriptTail") => `(tactic| (k_here; (with_reducible show wpAny _ _ (subscriptTail _ _ (Value.ref _) (Value.int _ _)) _ _ _); k_dflt (refine' item_mem ?F ?l ?a ?b ?c ?_ ?d; (case F => k_asm); (case l => k_mem); (case a => k_asm); (case b => k_asm); (case c => k_asm); (case d => with_unfolding_all rfl); k_whole)))
theorem sub_key9 {prog : Program} {w : World} {A : Around} {E : Value → Shared → Prop} {s : Shared} {h₀ : Heap} {L d : Addr} {news : List (Addr × Obj)} {n : Nat} {xs : Ents} {k : Key} {key v : Value} {Q : Value → Shared → Prop} {value slice : PySem.Expr}
    (N : News h₀ L s.heap news) (hm : (d, dictK w xs n) ∈ news) (hkey : IsKey prog w s.heap k key) (hx : Keyed prog w s.heap xs) (hp : look xs k = some v) (hu : A.in1.units < cLine)
    (hs : subscripted slice false (.ref d) key = operate [.ref d, key] (getItem (.ref d) key)) (h : ∀ tk, Q v { s with toks := tk }) : wpAny (model prog w) A (subscriptTail value slice (.ref d) key) Q E s :=
  tail_any (typeIs_dictK (N.get hm)) slot_dict_getitem.lookup (getItem_key hu hkey (N.get hm) hx hp h) hs
local macro_rules | `(tactic| walk_at "subscriptTail") => `(tactic| (k_here; (with_reducible show wpAny _ _ (subscriptTail _ _ (Value.ref _) _) _ _ _); k_dflt (refine' sub_key9 ?N ?hm ?hk ?hx ?hp ?hu ?hs ?_; (case N => k_asm); (case hm => k_mem); (case hk => k_asm); (case hx => k_asm); (case hp => k_asm); (case hu => ktr_units); (case hs => with_unfolding_all rfl); k_whole); intro tk9))
section
variable {prog : Program} {w : World} {p : Program} {loose : List Str} {mean : ExcName → Option Value} {mg mb : Str → Option Value}
  {dp un : Nat} {gd : Option (List Code)} {cn : Str} {a : Addr} {ccd : Value} {cl : List (Str × Addr)} {outer : List Env} {A₀ : Around} {base h₀ : Heap} {L : Addr} {m : Str → Option Value} {s : Shared} {Q : Flow → Shared → Prop} {E : Value → Shared → Prop}
  {ow : Addr → Nat} {k : Nat} {M : Int} {gk c dc d : Addr} {recs : List Rec} {q : Key} {key : Value} {tk tf ts tt : Tok} {far size turn : Int} {lc : Addr} {cs : Array Value} {nc : Nat}
variable (B : Below A₀ base outer h₀) (F : Fr h₀ L s.heap m) (X : (hd.heap_39 w.params).In h₀) (T : Top p loose mean mg mb h₀) (hdp : dp + 100 < recursionLimit) (hun : un + 1000 < cLine)
include B F X T hdp hun

theorem I4 {lh hk : Addr} {hs : Array Value} {nh nx : Nat} {xs : Ents} {val : Value} {i : Int} {u t : Tok} (hkx : IsKey prog w s.heap q key)
    (hlh : s.heap.get? lh = some (listOf hs nh)) (nlh : lh ≠ L) (zlh : h₀.get? lh = none) (hhk : hs[k]? = some (.ref hk)) (hk6 : k < 6)
    (hd : s.heap.get? hk = some (dictK w xs nx)) (nhk : hk ≠ L) (zhk : h₀.get? hk = none) (hxs : Keyed prog w s.heap xs)
    (m_key : m (Str.ofString "key") = some key) (m_held : m (Str.ofString "held") = some (.ref lh)) (m_k : m (Str.ofString "k") = some (.int k tk)) (m_far : m (Str.ofString "far") = some (.int far tf)) (m_size : m (Str.ofString "size") = some (.int size ts)) (m_value : m (Str.ofString "value") = some val)
    (hit : far < size → look xs q = some (.int i u) ∧ val = .int i t) (miss : ¬ far < size → val = .str (Str.ofString "none") t)
    (ret : ∀ tk', Q .next { s with toks := tk' }) :
    wpAny (model prog w) (ktrTop dp un gd cn lawScope L a ccd cl outer) (exec (nth innerB 3) (envX cn lawScope L a ccd cl)) Q E s := by
  conv =>
    arg 3
    arg 1
    whnf
  have N := alive_news (h₀ := h₀) (L := L) (h := s.heap) []
  have m1 := in_alive (ads := []) hlh nlh zlh (by simp)
  have m2 := in_alive (ads := []) hd nhk zhk (by simp)
  have hk0 : (0 : Int) ≤ (k : Int) := by omega
  have hk1 : (k : Int) < 2 ^ 63 := by omega
  have hk2 : hs[(k : Int).toNat]? = some (.ref hk) := hhk
  have S0 : h₀.StaysIn s.heap := F.keep
  by_cases hfs : far < size
  · obtain ⟨hlk, rfl⟩ := hit hfs
    k_steps
    · rename_i e; simp at e
    · exact ret _
  · obtain rfl := miss hfs
    k_steps
    exact ret _
end
end Mine
end
section
theorem Mine.off_LawI5 : True := by w_top off; exact True.intro
set_option maxRecDepth 100000
set_option linter.unusedVariables false
set_option linter.unusedSectionVars false
set_option maxHeartbeats 1000000
namespace Mine
open PySem PySem.W PySem.Spec PySem.Calls PyProof.Rows
theorem fillI5 : (PySem.Challenge.rw_bb0035_01 = PySem.Challenge.rw_bb0035_01) ∧ (hd.heap_39 = hd.heap_39) := by k_fill; exact ⟨rfl, rfl⟩
local macro_rules | `(tactic| k_room) => `(tactic| ktr_room)
local macro_rules | `(tactic| k_units) => `(tactic| ktr_units)
local macro_rules | `(tactic| k_mem) => `(tactic| with_reducible assumption)
local macro_rules | `(tactic| walk_at "eval Name") => `(tactic| (k_here; k_dflt (refine' nameX_L ?F ?v ?_ ?a ?b; (case F => k_asm); (case a => rfl); (case b => rfl); (case v => first | with_reducible assumption | rfl | assumption); k_whole)))
local macro_rules | `(tactic| walk_at "subscriptTail") => `(tactic| (k_here; (with_reducible show wpAny _ _ (subscriptTail _ _ (Value.ref _) (Value.int _ _)) _ _ _); k_dflt (refine' item_mem ?F ?l ?a ?b ?c ?_ ?d; (case F => k_asm); (case l => k_mem); (case a => k_asm); (case b => k_asm); (case c => k_asm); (case d => with_unfolding_all rfl); k_whole)))
local macro_rules | `(tactic| walk_at "eval Name") => `(tactic| (k_here; k_dflt (refine' nameX_C ?N ?c ?m ?d ?_ ?a ?b; (case a => rfl); (case b => rfl); (case N => k_asm); (case c => with_reducible assumption); (case m => k_mem); (case d => with_reducible assumption); k_whole)))
local macro_rules | `(tactic| walk_at "execs cons") => `(tactic| (k_here; refine Hold.intro ?_))
section
variable {prog : Program} {w : World} {p : Program} {loose : List Str} {mean : ExcName → Option Value} {mg mb : Str → Option Value}
  {dp un : Nat} {gd : Option (List Code)} {cn : Str} {a : Addr} {ccd : Value} {cl : List (Str × Addr)} {outer : List Env} {A₀ : Around} {base h₀ : Heap} {L : Addr} {m : Str → Option Value} {s : Shared} {Q : Flow → Shared → Prop} {E : Value → Shared → Prop}
  {ow : Addr → Nat} {k : Nat} {M : Int} {gk c dc d : Addr} {recs : List Rec} {q : Key} {key : Value} {tk tf ts tt : Tok} {far size turn : Int} {lc : Addr} {cs : Array Value} {nc : Nat}
variable (B : Below A₀ base outer h₀) (F : Fr h₀ L s.heap m) (X : (hd.heap_39 w.params).In h₀) (T : Top p loose mean mg mb h₀) (hdp : dp + 100 < recursionLimit) (hun : un + 1000 < cLine)
include B F X T hdp hun

theorem I5n (m_far : m (Str.ofString "far") = some (.int far tf)) (m_size : m (Str.ofString "size") = some (.int size ts)) (hlt : far < size) (ret : ∀ tk', Q .next { s with toks := tk' }) :
    wpAny (model prog w) (ktrTop dp un gd cn lawScope L a ccd cl outer) (exec (nth innerB 4) (envX cn lawScope L a ccd cl)) Q E s := by
  conv =>
    arg 3
    arg 1
    whnf
  k_steps
  exact ret _
theorem I5t (m_far : m (Str.ofString "far") = some (.int far tf)) (m_size : m (Str.ofString "size") = some (.int size ts)) (hlt : ¬ far < size) (ret : ∀ tk', wpAny (model prog w) (ktrTop dp un gd cn lawScope L a ccd cl outer) (execs dueB (envX cn lawScope L a ccd cl)) Q E { s with toks := tk' }) :
    wpAny (model prog w) (ktrTop dp un gd cn lawScope L a ccd cl outer) (exec (nth innerB 4) (envX cn lawScope L a ccd cl)) Q E s := by
  conv =>
    arg 3
    arg 1
    whnf
  k_steps
  exact ret _
end
end Mine
end
section
set_option maxRecDepth 100000
set_option linter.unusedVariables false
set_option linter.unusedSectionVars false
set_option maxHeartbeats 2000000
namespace Mine
open PySem PySem.W PySem.Spec PySem.Calls PyProof.Rows
theorem innerB_eq : innerB = [nth innerB 0, nth innerB 1, nth innerB 2, nth innerB 3, nth innerB 4] := rfl
theorem updG_self (g : Nat → Ix) (k : Nat) : updG g k (g k) = g := by
  funext j
  by_cases e : j = k
  · subst e; exact updG_same _ _ _
  · exact updG_ne e
theorem updG_updG (g : Nat → Ix) (k : Nat) (x y : Ix) : updG (updG g k x) k y = updG g k y := by
  funext j
  by_cases e : j = k
  · subst e; rw [updG_same, updG_same]
  · rw [updG_ne e, updG_ne e, updG_ne e]
theorem Keep95.of {ow : Addr → Nat} {h h' : Heap} {ads : List Addr} (K : Keep h h' ads) (hads : ∀ a ∈ ads, ow a ≠ 95) : Keep95 ow h ow h' := fun a o e q => ⟨K a o e fun hm => hads a hm q, q⟩
section
variable {prog : Program} {w : World} {p : Program} {loose : List Str} {mean : ExcName → Option Value} {mg mb : Str → Option Value}
  {dp un : Nat} {gd : Option (List Code)} {cn : Str} {a : Addr} {ccd : Value} {cl : List (Str × Addr)} {outer : List Env} {A₀ : Around} {base h₀ : Heap} {L : Addr} {m : Str → Option Value} {s : Shared} {Q : Flow → Shared → Prop} {E : Value → Shared → Prop}
  {ow : Addr → Nat} {k : Nat} {q : Key} {key : Value} {tk tf ts tt : Tok} {far size turn : Int} {cg : Addr} {S : St} {g : Nat → Ix} {rec : KeyL}
variable (B : Below A₀ base outer h₀) (F : Fr h₀ L s.heap m) (X : (hd.heap_39 w.params).In h₀) (T : Top p loose mean mg mb h₀) (hdp : dp + 100 < recursionLimit) (hun : un + 1000 < cLine)
include B F X T hdp hun

theorem inner_turn {keys : List Key} {v : Int} {tv : Tok} (hBase : h₀ = base) (W : LawSt prog w s.heap ow h₀ L cg S g rec) (hk6 : k < 6) (MO : MOk m S) (MT : MTurn m turn tt key far tf) (m_k : m (Str.ofString "k") = some (.int k tk))
    (hkx : IsKeyW prog w s.heap ow q key) (hkeys : rec.map (·.1) = keys) (hrel : (g k).recs.map (·.key) = keys.take (k + 1)) (hfar : q ∈ keys.take (k + 1) ↔ far < (k : Int) + 1) (hrl : rec.length ≤ 99) (hits : (g k).its.size ≤ 99)
    (htu : 0 ≤ turn) (htu2 : turn < 24) (hcv : S.cv[turn.toNat]? = some (.int v tv)) (hcl : cl.lookup (Str.ofString "gone") = some cg)
    (ret : ∀ h' tk' m' ow' x', Fr h₀ L h' m' → MOk m' S → MTurn m' turn tt key far tf → LawSt prog w h' ow' h₀ L cg S (updG g k x') rec → IsKeyW prog w h' ow' q key → Keep95 ow s.heap ow' h' → x'.recs.map (·.key) = (newKeys keys q).take (k + 1) → x'.its.size ≤ (g k).its.size + 1 → Q .next { s with heap := h', toks := tk' }) :
    wpAny (model prog w) (ktrTop dp un gd cn lawScope L a ccd cl outer) (execs innerB (envX cn lawScope L a ccd cl)) Q E s := by
  have hk98 : k ≠ 98 := by omega
  have hoL := W.oL
  have hkn : keys.Nodup := hkeys ▸ W.nodup
  rw [innerB_eq]
  refine wpAny_execs_cons (I1 B F X T hdp hun m_k hk6 (fun h1 tk1 t1 F1 K1 => ?_))
  have adL : ∀ b ∈ [L], 93 < ow b ∧ ow b ≠ 96 ∧ ow b ≠ 97 ∧ ow b ≠ 98 := fun b hb => by rw [List.mem_singleton.mp hb, hoL]; decide
  have W1 := W.keep K1 adL
  have k1 := hkx.keepB K1 (fun b hb => (adL b hb).2.2.2)
  have q1 : Keep95 ow s.heap ow h1 := .of K1 (fun b hb => by rw [List.mem_singleton.mp hb, hoL]; decide)
  have X1 := W1.ix k hk6
  obtain ⟨nlc1, cs1, elc1, hcs1⟩ := W1.lc
  have olc1 := W1.own98 S.lc (by simp)
  have hb : decide (q ∈ (g k).recs.map (·.key)) = decide (far < (k : Int) + 1) := by rw [hrel]; exact decide_eq_decide.mpr hfar
  refine wpAny_execs_cons (I2 B F1 X T hdp hun hk98 X1.cache k1.1 elc1 olc1.2.1 olc1.2.2 (hcs1 k hk6) hk6 MT.key MO.caches m_k MT.far rfl hb (fun h2 tk2 F2 C2 K2 => ?_))
  have ad2 : ∀ b ∈ (g k).c :: (g k).dc :: (g k).d :: adr (g k).recs, ow b = k := fun b hb => (X1.cache.own b hb).1
  have W2 : LawSt prog w h2 ow h₀ L cg S g rec := by
    have := W1.cacheStep hk6 C2 K2 (fun b hb => .inl (ad2 b hb)) (.refl _)
    rwa [show ({ g k with recs := (g k).recs } : Ix) = g k from rfl, updG_self] at this
  have k2 := k1.keepB K2 (fun b hb => by rw [ad2 b hb]; exact hk98)
  have q2 := q1.trans (.of K2 (fun b hb => by rw [ad2 b hb]; omega))
  have X2 := W2.ix k hk6
  obtain ⟨nlc2, cs2, elc2, hcs2⟩ := W2.lc
  have olc2 := W2.own98 S.lc (by simp)
  obtain ⟨nlv2, elv2⟩ := W2.lv
  have olv2 := W2.own98 S.lv (by simp)
  by_cases hfs : far < (k : Int) + 1
  · have hmem : q ∈ (g k).recs.map (·.key) := by rw [hrel]; exact hfar.mpr hfs
    obtain ⟨x, hx, hxk⟩ := List.mem_map.mp hmem
    obtain ⟨AA, R, hre⟩ := List.append_of_mem hx
    have C2' := X2.cache
    rw [hre] at C2'
    refine wpAny_execs_cons (I3h B F2 X T hdp hun hk98 hoL C2' (by rw [hxk]; exact k2.1) elc2 olc2.2.1 olc2.2.2 (hcs2 k hk6) hk6 elv2 olv2.2.1 olv2.2.2 htu htu2 hcv MT.key MO.caches m_k MO.cells MT.turn (fun h3 tk3 F3 C3 K3 => ?_))
    have ad3 : ∀ b ∈ L :: (g k).c :: (g k).dc :: (g k).d :: adr (AA ++ x :: R), ow b = k ∨ ow b = 99 := fun b hb => by
      rcases List.mem_cons.mp hb with rfl | hb
      · exact .inr hoL
      · exact .inl (C2'.own b hb).1
    have W3 := W2.cacheStep hk6 C3 K3 ad3 (by rw [hre]; exact List.perm_middle.symm)
    have k3 := k2.keepB K3 (fun b hb => by have := ad3 b hb; omega)
    have q3 := q2.trans (.of K3 (fun b hb => by have := ad3 b hb; omega))
    have X3 := W3.ix k hk6
    rw [updG_same] at X3
    obtain ⟨nlh3, hs3, elh3, hhs3⟩ := W3.lh
    have olh3 := W3.own98 S.lh (by simp)
    obtain ⟨u, hu⟩ := X3.hlook x (by simp)
    rw [hxk] at hu
    have hhs3k := hhs3 k hk6
    rw [updG_same] at hhs3k
    refine wpAny_execs_cons (I4 (u := u) (i := x.i) (t := x.vt) B F3 X T hdp hun k3.1 elh3 olh3.2.1 olh3.2.2 hhs3k hk6 X3.held X3.hown.2.1 X3.hown.2.2 X3.keyed MT.key MO.held m_k MT.far rfl rfl (fun _ => ⟨hu, rfl⟩) (fun n => absurd hfs n) (fun tk4 => ?_))
    refine wpAny_execs_cons (I5n B F3 X T hdp hun MT.far rfl hfs (fun tk5 => ?_))
    refine wpAny_execs_nil (ret _ _ _ ow _ F3 ⟨MO.caches, MO.held, MO.teller, MO.recent, MO.cells⟩ ⟨MT.turn, MT.key, MT.far⟩ W3 k3 q3 ?_ (by simp))
    have hr2 : keys.take (k + 1) = AA.map (·.key) ++ q :: R.map (·.key) := by rw [← hrel, hre]; simp [hxk]
    rw [keys_hit hkn hr2]
    simp [hxk]
  · have hno : q ∉ (g k).recs.map (·.key) := by rw [hrel]; exact fun h => hfs (hfar.mp h)
    refine wpAny_execs_cons (I3m B F2 X T hdp hun hBase hk98 hoL X2.cache k2.1 hno elc2 olc2.2.1 olc2.2.2 (hcs2 k hk6) hk6 elv2 olv2.2.1 olv2.2.2 htu htu2 hcv MT.key MO.caches m_k MO.cells MT.turn (fun h3 tk3 t3 F3 C3 K3 => ?_))
    have ad3 : ∀ b ∈ L :: (g k).c :: (g k).dc :: (g k).d :: adr (g k).recs, ow b = k ∨ ow b = 99 := fun b hb => by
      rcases List.mem_cons.mp hb with rfl | hb
      · exact .inr hoL
      · exact .inl (ad2 b hb)
    have W3 : LawSt prog w h3 ow h₀ L cg S g rec := by
      have := W2.cacheStep hk6 C3 K3 ad3 (.refl _)
      rwa [show ({ g k with recs := (g k).recs } : Ix) = g k from rfl, updG_self] at this
    have k3 := k2.keepB K3 (fun b hb => by have := ad3 b hb; omega)
    have q3 := q2.trans (.of K3 (fun b hb => by have := ad3 b hb; omega))
    have X3 := W3.ix k hk6
    obtain ⟨nlh3, hs3, elh3, hhs3⟩ := W3.lh
    have olh3 := W3.own98 S.lh (by simp)
    refine wpAny_execs_cons (I4 (u := 0) (i := 0) (t := t3) B F3 X T hdp hun k3.1 elh3 olh3.2.1 olh3.2.2 (hhs3 k hk6) hk6 X3.held X3.hown.2.1 X3.hown.2.2 X3.keyed MT.key MO.held m_k MT.far rfl rfl (fun n => absurd n hfs) (fun _ => rfl) (fun tk4 => ?_))
    refine wpAny_execs_cons (I5t B F3 X T hdp hun MT.far rfl hfs (fun tk5 => ?_))
    have hlr : (g k).recs.length = min (k + 1) rec.length := by
      have := congrArg List.length hrel
      simpa [← hkeys] using this
    have MO3 : MOk (fun y => if y = Str.ofString "value" then some (Value.str (Str.ofString "none") t3) else if y = Str.ofString "size" then some (Value.int ((k : Int) + 1) t1) else m y) S := ⟨MO.caches, MO.held, MO.teller, MO.recent, MO.cells⟩
    have MT3 : MTurn (fun y => if y = Str.ofString "value" then some (Value.str (Str.ofString "none") t3) else if y = Str.ofString "size" then some (Value.int ((k : Int) + 1) t1) else m y) turn tt key far tf := ⟨MT.turn, MT.key, MT.far⟩
    by_cases hroom : rec.length < k + 1
    · refine due_room B F3 X T hdp hun W3 hk6 MO3 MT3 m_k rfl k3 hno (by omega) hroom (by omega) hcl (fun h' tk' m' ow' x' F' MO' MT' W' k' q' hk' hi' => ?_)
      refine wpAny_execs_nil (ret _ _ _ _ _ F' MO' MT' W' k' (q3.trans q') ?_ hi')
      rw [hk', hrel, keys_room (by rw [← hrel]; exact hno) (by rw [← hkeys, List.length_map]; exact hroom)]
    · have hl1 : (g k).recs.length = k + 1 := by omega
      rcases List.eq_nil_or_concat (g k).recs with e | ⟨PP, l, hre⟩
      · rw [e] at hl1; cases hl1
      · rw [List.concat_eq_append] at hre
        have hPP : PP.length = k := by rw [hre] at hl1; simpa using hl1
        have hkl : k < rec.length := by omega
        have hsplit : keys.take (k + 1) = PP.map (·.key) ++ [l.key] := by rw [← hrel, hre]; simp
        have hlo : l.key = (rec[k]).1 := by
          have h1 : (keys.take (k + 1))[k]? = some l.key := by rw [hsplit, List.getElem?_append_right (by simp [hPP])]; simp [hPP]
          rw [List.getElem?_take_of_lt (Nat.lt_succ_self k), ← hkeys, List.getElem?_map, List.getElem?_eq_getElem hkl] at h1
          exact (Option.some.inj h1).symm
        refine due_full B F3 X T hdp hun W3 hk6 MO3 MT3 m_k rfl k3 hno hre hPP (oq := (rec[k]).1) (ov := (rec[k]).2) (List.getElem?_eq_getElem hkl) hlo (by omega) (by omega) hcl (fun h' tk' m' ow' x' F' MO' MT' W' k' q' hk' hi' => ?_)
        refine wpAny_execs_nil (ret _ _ _ _ _ F' MO' MT' W' k' (q3.trans q') ?_ hi')
        rw [hk', keys_full hkn hsplit (by simp [hPP]) (by rw [← hsplit, ← hrel]; exact hno)]
end
end Mine
end
section
set_option maxRecDepth 100000
set_option linter.unusedVariables false
namespace Mine
open PySem PySem.W PySem.Spec PySem.Calls PyProof.Rows
/-! a for over range(n) by what holds of the heap -/
section
variable {prog : Program} {w : World} {A : Around} {s : Shared} {env : Env} {h₀ : Heap} {x : Str} {px : Pos} {body : List Stmt} {r : Addr} {n : Nat} {t u v : Tok} {m₀ : Str → Option Value} {Q : Flow → Shared → Prop} {E : Value → Shared → Prop}
theorem range_heap (hh : A.handled = none) (hr : IsRange s.heap r 0 n 1 t u v) (hsmall : Builtin.Range.small 0 n 1 = true) (hn : Builtin.Range.rangeSize 0 n 1 = (n : Int))
    (hx : env.kindOf x = some .local) (hp : (env.scope.kind == .class || (env.scope.kind == .module && env.locals != env.globals)) = false) (F : Fr h₀ env.locals s.heap m₀)
    (J : Nat → (Str → Option Value) → Heap → Prop)
    (j0 : ∀ o, J 0 m₀ (s.heap.push o))
    (jk : ∀ i m h h', J i m h → Keep h h' [env.locals, s.heap.objs.size] → J i m h')
    (turn : ∀ i m₁ h tk t o, i < n → J i m₁ h → h.get? s.heap.objs.size = some o → Fr h₀ env.locals h (fun y => if y = x then some (.int i t) else m₁ y) →
      wpAny (model prog w) A (execs body env) (fun f s' => f = .next ∧ ∃ h' tk' m', s' = { s with heap := h', toks := tk' } ∧ Fr h₀ env.locals h' m' ∧ J (i + 1) m' h' ∧ h'.get? s.heap.objs.size = some o) (fun _ _ => False) { s with heap := h, toks := tk })
    (done : ∀ m' h tk, Fr h₀ env.locals h m' → J n m' h → Q .next { s with heap := h, toks := tk }) :
    wpAny (model prog w) A (pyIter (.ref r)) (fun it s₂ => codeAny (model prog w) A (.forLoop (.Name x px) it body [] env) (fun r s' => match r with | .ok f => Q f s' | .error e => cameBackBy (model prog w) A env E e s') s₂) E s := by
  refine wpAny_pyIter_range hr hsmall ?_
  have W := Walks.range (prog := prog) (w := w) hh s.heap.objs.size 0 1 n
  have hIL : s.heap.objs.size ≠ env.locals := Nat.ne_of_gt F.ns.lt
  have hI0 : h₀.get? s.heap.objs.size = none := by
    cases q : h₀.get? s.heap.objs.size with
    | none => rfl
    | some o => exact absurd (Heap.lt_size (F.keep _ _ q)) (Nat.lt_irrefl _)
  refine codeAny_forLoop
    (fun k s' => ∃ h' tk m' i, s' = { s with heap := h', toks := tk } ∧ IsRangeIter h' s.heap.objs.size (0 + (i : Nat) * 1) ((n : Int) - (i : Nat)) 1 ∧ Fr h₀ env.locals h' m' ∧ J i m' h' ∧ i ≤ n ∧ k = n + 1 - i) ?_ (n + 1)
    ⟨_, _, m₀, 0, rfl, by rw [hn]; simpa using Heap.get?_push_size _ rfl, F.push _, j0 _, Nat.zero_le _, rfl⟩
  rintro k s' ⟨h', tk, m', i, rfl, hst', F', hJ, hi, rfl⟩
  have next : ∀ h₁ : Heap, (∀ b o, b ∉ [s.heap.objs.size] → h'.get? b = some o → h₁.get? b = some o) → Fr h₀ env.locals h₁ m' := fun h₁ hk₁ =>
    ⟨F'.ns.at' fun o e => hk₁ _ o (by simpa using Ne.symm hIL) e, fun b o e => hk₁ b o (by
      simp only [List.mem_singleton]
      rintro rfl
      rw [hI0] at e; cases e) (F'.keep b o e), F'.above⟩
  by_cases hlt : i < n
  · refine W.item i _ _ _ hlt hst' fun v h₁ tk₁ hP hst₁ hk₁ => ?_
    have F₁ := next h₁ hk₁
    obtain ⟨t₁, rfl⟩ := hP
    refine wpAny_assign_Name (wpAny_storeName_local hx F₁.ns (fun h₂ hn₂ hs₂ => ?_) hp)
    have F₂ := F₁.set hn₂ hs₂
    have hst₂ : h₂.get? s.heap.objs.size = _ := (hs₂.2 _ hIL).trans hst₁
    have J₂ : J i m' h₂ := jk i m' h' h₂ hJ fun a o e n => by
      simp only [List.mem_cons, List.not_mem_nil, or_false, not_or] at n
      exact (hs₂.2 a n.1).trans (hk₁ a o (by simpa using n.2) e)
    simp only [Int.zero_add, Int.mul_one] at F₂
    refine wpAny_mono (turn i m' h₂ _ _ _ hlt J₂ hst₂ F₂) (fun f s₃ h₃ => ?_) fun _ _ e => e.elim
    obtain ⟨rfl, h₃', tk₃, m₂, rfl, F₃, J₃, e₃⟩ := h₃
    exact ⟨n + 1 - (i + 1), by omega, h₃', tk₃, m₂, i + 1, rfl, e₃, F₃, J₃, hlt, rfl⟩
  · have hin : i = n := by omega
    subst hin
    refine W.done _ _ _ hst' fun h₁ tk₁ hk₁ => wpAny_execs_nil ?_
    exact done m' h₁ tk₁ (next h₁ hk₁) (jk _ _ _ _ hJ fun a o e n => hk₁ a o (by
      simp only [List.mem_cons, List.not_mem_nil, or_false, not_or] at n
      simpa using n.2) e)
end
end Mine
end
section
theorem Mine.off_LawL1 : True := by w_top off; exact True.intro
local macro_rules | `(tactic| walk_at "no such word") => `(tactic| fail "no step")
set_option maxRecDepth 100000
set_option linter.unusedVariables false
set_option linter.unusedSectionVars false
set_option maxHeartbeats 1000000
namespace Mine
open PySem PySem.W PySem.Spec PySem.Calls PyProof.Rows
theorem fillL1 : (PySem.Challenge.rw_bb0035_01 = PySem.Challenge.rw_bb0035_01) ∧ (hd.heap_39 = hd.heap_39) := by k_fill; exact ⟨rfl, rfl⟩
local macro_rules | `(tactic| k_room) => `(tactic| ktr_room)
local macro_rules | `(tactic| k_units) => `(tactic| ktr_units)
local macro_rules | `(tactic| k_mem) => `(tactic| with_reducible assumption)
local macro_rules | `(tactic| walk_at "eval Name") => `(tactic| (k_here; k_dflt (refine' nameX_L ?F ?v ?_ ?a ?b; (case F => k_asm); (case a => rfl); (case b => rfl); (case v => first | with_reducible assumption | rfl | assumption); k_whole)))
local macro_rules | `(tactic| walk_at "subscriptTail") => `(tactic| (k_here; (with_reducible show wpAny _ _ (subscriptTail _ _ (Value.ref _) (Value.int _ _)) _ _ _); k_dflt (refine' item_mem ?F ?l ?a ?b ?c ?_ ?d; (case F => k_asm); (case l => k_mem); (case a => k_asm); (case b => k_asm); (case c => k_asm); (case d => with_unfolding_all rfl); k_whole)))
local macro_rules | `(tactic| walk_at "eval Name") => `(tactic| (k_here; k_dflt (refine' nameX_C ?N ?c ?m ?d ?_ ?a ?b; (case a => rfl); (case b => rfl); (case N => k_asm); (case c => with_reducible assumption); (case m => k_mem); (case d => with_reducible assumption); k_whole)))
local macro_rules | `(tactic| walk_at "pyIter ref") => `(tactic| (k_here; refine Hold.intro ?_))
section
variable {prog : Program} {w : World} {p : Program} {loose : List Str} {mean : ExcName → Option Value} {mg mb : Str → Option Value}
  {dp un : Nat} {gd : Option (List Code)} {cn : Str} {a : Addr} {ccd : Value} {cl : List (Str × Addr)} {outer : List Env} {A₀ : Around} {base h₀ : Heap} {L : Addr} {m : Str → Option Value} {s : Shared} {Q : Flow → Shared → Prop} {E : Value → Shared → Prop}
  {ow : Addr → Nat} {k : Nat} {M : Int} {gk c dc d : Addr} {recs : List Rec} {q : Key} {key : Value} {tk tf ts tt : Tok} {far size turn : Int} {lc : Addr} {cs : Array Value} {nc : Nat}
variable (B : Below A₀ base outer h₀) (F : Fr h₀ L s.heap m) (X : (hd.heap_39 w.params).In h₀) (T : Top p loose mean mg mb h₀) (hdp : dp + 100 < recursionLimit) (hun : un + 1000 < cLine)
include B F X T hdp hun

/-- for k in range(6): its head -/
theorem range6 {px : Pos} {body : List Stmt} {pos p1 p2 p3 : Pos} (hh : ∀ h' tk' r t u v, Fr h₀ L h' m → Keep s.heap h' [] → IsRange h' r 0 6 1 t u v →
      wpAny (model prog w) (ktrTop dp un gd cn lawScope L a ccd cl outer) (pyIter (.ref r)) (fun it s₂ => codeAny (model prog w) (ktrTop dp un gd cn lawScope L a ccd cl outer) (.forLoop (.Name (Str.ofString "k") px) it body [] (envX cn lawScope L a ccd cl)) (fun r s' => match r with | .ok f => Q f s' | .error e => cameBackBy (model prog w) (ktrTop dp un gd cn lawScope L a ccd cl outer) (envX cn lawScope L a ccd cl) E e s') s₂) E { s with heap := h', toks := tk' }) :
    wpAny (model prog w) (ktrTop dp un gd cn lawScope L a ccd cl outer) (exec (.For (.Name (Str.ofString "k") px) (.Call (.Name (Str.ofString "range") p1) [.Constant (.int 6) 0 p2] [] p3) body [] pos) (envX cn lawScope L a ccd cl)) Q E s := by
  have N := alive_news (h₀ := h₀) (L := L) (h := s.heap) []
  have S0 : h₀.StaysIn s.heap := F.keep
  refine wpAny_For ?_
  k_steps
  (rename Fr h₀ L _ _ => F8); (rename IsRange _ _ _ _ _ _ _ _ => R8); (rename ∀ b o, Heap.get? _ b = some o → Heap.get? _ b = some o => K8)
  unfold held
  exact hh _ _ _ _ _ _ F8 (fun b o e _ => K8 b o e) R8
end
end Mine
end
section
set_option maxRecDepth 100000
set_option linter.unusedVariables false
set_option linter.unusedSectionVars false
set_option maxHeartbeats 2000000
namespace Mine
open PySem PySem.W PySem.Spec PySem.Calls PyProof.Rows
def RelK (keys : List Key) (b : Nat) (k : Nat) (x : Ix) : Prop := x.recs.map (·.key) = keys.take (k + 1) ∧ x.its.size ≤ b
theorem small6 : Builtin.Range.small 0 (6 : Nat) 1 = true := by decide +kernel
theorem size6 : Builtin.Range.rangeSize 0 (6 : Nat) 1 = ((6 : Nat) : Int) := by decide +kernel
section
variable {prog : Program} {w : World} {p : Program} {loose : List Str} {mean : ExcName → Option Value} {mg mb : Str → Option Value}
  {dp un : Nat} {gd : Option (List Code)} {cn : Str} {a : Addr} {ccd : Value} {cl : List (Str × Addr)} {outer : List Env} {A₀ : Around} {base h₀ : Heap} {L : Addr} {m : Str → Option Value} {s : Shared} {Q : Flow → Shared → Prop} {E : Value → Shared → Prop}
  {ow : Addr → Nat} {k : Nat} {q : Key} {key : Value} {tk tf ts tt : Tok} {far size turn : Int} {cg : Addr} {S : St} {g : Nat → Ix} {rec : KeyL}
variable (B : Below A₀ base outer h₀) (F : Fr h₀ L s.heap m) (X : (hd.heap_39 w.params).In h₀) (T : Top p loose mean mg mb h₀) (hdp : dp + 100 < recursionLimit) (hun : un + 1000 < cLine)
include B F X T hdp hun

theorem inner_loop {keys : List Key} {b : Nat} {v : Int} {tv : Tok} (hBase : h₀ = base) (W : LawSt prog w s.heap ow h₀ L cg S g rec) (MO : MOk m S) (MT : MTurn m turn tt key far tf)
    (hkx : IsKeyW prog w s.heap ow q key) (hkeys : rec.map (·.1) = keys) (hrel : ∀ j, j < 6 → RelK keys b j (g j)) (hfar : ∀ j : Nat, j < 6 → (q ∈ keys.take (j + 1) ↔ far < (j : Int) + 1)) (hrl : rec.length ≤ 99) (hb : b ≤ 99)
    (htu : 0 ≤ turn) (htu2 : turn < 24) (hcv : S.cv[turn.toNat]? = some (.int v tv)) (hcl : cl.lookup (Str.ofString "gone") = some cg)
    (ret : ∀ h' tk' m' ow' g', Fr h₀ L h' m' → MOk m' S → MTurn m' turn tt key far tf → LawSt prog w h' ow' h₀ L cg S g' rec → IsKeyW prog w h' ow' q key → Keep95 ow s.heap ow' h' → (∀ j, j < 6 → RelK (newKeys keys q) (b + 1) j (g' j)) → Q .next { s with heap := h', toks := tk' }) :
    wpAny (model prog w) (ktrTop dp un gd cn lawScope L a ccd cl outer) (exec (nth turnB 2) (envX cn lawScope L a ccd cl)) Q E s := by
  conv =>
    arg 3
    arg 1
    whnf
  refine range6 B F X T hdp hun (fun h1 tk1 r t u v' F1 K1 R1 => ?_)
  have W1 := W.keep K1 nofun
  have k1 := hkx.keepB K1 nofun
  have q1 : Keep95 ow s.heap ow h1 := .of K1 nofun
  have hLI : L ≠ h1.objs.size := Nat.ne_of_lt F1.ns.lt
  have dead : ∀ b o, h1.get? b = some o → b ≠ h1.objs.size := fun b o e => Nat.ne_of_lt (Heap.lt_size e)
  refine range_heap (s := { s with heap := h1, toks := tk1 }) (n := 6) rfl R1 small6 size6 rfl rfl F1
    (fun i m₁ h => ∃ ow' g', LawSt prog w h ow' h₀ L cg S g' rec ∧ IsKeyW prog w h ow' q key ∧ MOk m₁ S ∧ MTurn m₁ turn tt key far tf ∧ Keep95 ow h1 ow' h ∧ ow' h1.objs.size = 95 ∧ (∀ j, j < i → RelK (newKeys keys q) (b + 1) j (g' j)) ∧ ∀ j, i ≤ j → j < 6 → RelK keys b j (g' j))
    (fun o => ?_) ?_ ?_ ?_
  · have he : ∀ b o, h1.get? b = some o → (fun b => if b = h1.objs.size then 95 else ow b) b = ow b := fun b o e => if_neg (dead b o e)
    have K : Keep h1 (h1.push o) [] := fun b o e _ => Heap.get?_push_of_some _ e
    refine ⟨fun b => if b = h1.objs.size then 95 else ow b, g, (W1.ext he (by rw [if_neg hLI]; exact W.oL)).keep K nofun, (k1.ext he).keepB K nofun, MO, MT, fun b o' e q => ⟨Heap.get?_push_of_some _ e, (he b o' e).trans q⟩, if_pos rfl, nofun, fun j _ hj => hrel j hj⟩
  · rintro i m₁ h h' ⟨ow', g', W', k', MO', MT', q', hI, r1, r2⟩ K
    have ad : ∀ b ∈ [L, h1.objs.size], ow' b = 99 ∨ ow' b = 95 := by
      simp only [List.forall_mem_cons]
      exact ⟨.inl W'.oL, .inr hI, nofun⟩
    refine ⟨ow', g', W'.keep K (fun b hb => by have := ad b hb; omega), k'.keepB K (fun b hb => by have := ad b hb; omega), MO', MT', fun b o e q => ?_, hI, r1, r2⟩
    have z := q' b o e q
    refine ⟨K b o z.1 (by
      simp only [List.mem_cons, List.not_mem_nil, or_false, not_or]
      exact ⟨fun e' => (by rw [e', W.oL] at q; cases q), dead b o e⟩), z.2⟩
  · rintro i m₁ h tk t' o hi ⟨ow', g', W', k', MO', MT', q', hI, r1, r2⟩ ho F'
    refine inner_turn (s := { s with heap := h, toks := tk }) (k := i) B F' X T hdp hun hBase W' hi ⟨MO'.caches, MO'.held, MO'.teller, MO'.recent, MO'.cells⟩ ⟨MT'.turn, MT'.key, MT'.far⟩ rfl k' hkeys (r2 i (Nat.le_refl _) hi).1 (hfar i hi) hrl (Nat.le_trans (r2 i (Nat.le_refl _) hi).2 hb) htu htu2 hcv hcl
      (fun h' tk' m' ow'' x' F'' MO'' MT'' W'' k'' q'' hr hs => ⟨rfl, h', tk', m', rfl, F'', ⟨ow'', updG g' i x', W'', k'', MO'', MT'', q'.trans q'', (q'' _ _ ho hI).2, fun j hj => ?_, fun j hj hj6 => ?_⟩, (q'' _ _ ho hI).1⟩)
    · by_cases e : j = i
      · subst e
        rw [updG_same]
        exact ⟨hr, Nat.le_trans hs (Nat.succ_le_succ (r2 j (Nat.le_refl _) hi).2)⟩
      · rw [updG_ne e]; exact r1 j (by omega)
    · rw [updG_ne (by omega)]; exact r2 j (by omega) hj6
  · rintro m' h tk F' ⟨ow', g', W', k', MO', MT', q', hI, r1, r2⟩
    exact ret h tk m' ow' g' F' MO' MT' W' k' (q1.trans q') r1
end
end Mine
end
section
theorem Mine.off_LawO6 : True := by w_top off; exact True.intro
set_option maxRecDepth 100000
set_option linter.unusedVariables false
set_option linter.unusedSectionVars false
set_option maxHeartbeats 1000000
namespace Mine
open PySem PySem.W PySem.Spec PySem.Calls PyProof.Rows
theorem fillO6 : (PySem.Challenge.rw_bb0035_01 = PySem.Challenge.rw_bb0035_01) ∧ (hd.heap_39 = hd.heap_39) := by k_fill; exact ⟨rfl, rfl⟩
local macro_rules | `(tactic| k_room) => `(tactic| ktr_room)
local macro_rules | `(tactic| k_units) => `(tactic| ktr_units)
local macro_rules | `(tactic| k_mem) => `(tactic| with_reducible assumption)
local macro_rules | `(tactic| walk_at "eval Name") => `(tactic| (k_here; k_dflt (refine' nameX_L ?F ?v ?_ ?a ?b; (case F => k_asm); (case a => rfl); (case b => rfl); (case v => first | with_reducible assumption | rfl | assumption); k_whole)))
local macro_rules | `(tactic| walk_at "subscriptTail") => `(tactic| (k_here; (with_reducible show wpAny _ _ (subscriptTail _ _ (Value.ref _) (Value.int _ _)) _ _ _); k_dflt (refine' item_mem ?F ?l ?a ?b ?c ?_ ?d; (case F => k_asm); (case l => k_mem); (case a => k_asm); (case b => k_asm); (case c => k_asm); (case d => with_unfolding_all rfl); k_whole)))
local macro_rules | `(tactic| walk_at "eval Name") => `(tactic| (k_here; k_dflt (refine' nameX_C ?N ?c ?m ?d ?_ ?a ?b; (case a => rfl); (case b => rfl); (case N => k_asm); (case c => with_reducible assumption); (case m => k_mem); (case d => with_reducible assumption); k_whole)))
local macro_rules | `(tactic| walk_at "call builtin:len") => `(tactic| (k_here; (with_reducible show wpAny _ _ (call (Value.builtin "len") [Value.ref _]) _ _ _); k_dflt (refine' len_mem ?N ?l ?f ?_; (case N => k_asm); (case l => k_mem); (case f => omega); k_whole); intro t8 tk8))
local macro_rules | `(tactic| walk_at "call ref") => `(tactic| ((with_reducible show wpAny _ _ (call (Value.ref _) _) _ _ _); refine Hold.intro ?_))
local macro_rules | `(tactic| walk_at "compareOp NotEq ref ref") => `(tactic| (k_here; refine Hold.intro ?_))
section
variable {prog : Program} {w : World} {p : Program} {loose : List Str} {mean : ExcName → Option Value} {mg mb : Str → Option Value}
  {dp un : Nat} {gd : Option (List Code)} {cn : Str} {a : Addr} {ccd : Value} {cl : List (Str × Addr)} {outer : List Env} {A₀ : Around} {base h₀ : Heap} {L : Addr} {m : Str → Option Value} {s : Shared} {Q : Flow → Shared → Prop} {E : Value → Shared → Prop}
  {ow : Addr → Nat} {k : Nat} {M : Int} {gk c dc d : Addr} {recs : List Rec} {q : Key} {key : Value} {tk tf ts tt : Tok} {far size turn : Int} {lc : Addr} {cs : Array Value} {nc : Nat}
variable (B : Below A₀ base outer h₀) (F : Fr h₀ L s.heap m) (X : (hd.heap_39 w.params).In h₀) (T : Top p loose mean mg mb h₀) (hdp : dp + 100 < recursionLimit) (hun : un + 1000 < cLine)
include B F X T hdp hun

theorem O6 {lr lh hk : Addr} {rv hs : Array Value} {nr nh nx : Nat} {xs : Ents} (hk98 : k ≠ 98) (hoL : ow L = 99) (C : CacheAt prog w s.heap ow k h₀ L M gk c dc d recs)
    (hlc : s.heap.get? lc = some (listOf cs nc)) (nlc : lc ≠ L) (zlc : h₀.get? lc = none) (olc : ow lc ≠ k) (hck : cs[k]? = some (.ref c)) (hk6 : k < 6)
    (hlr : s.heap.get? lr = some (listOf rv nr)) (nlr : lr ≠ L) (zlr : h₀.get? lr = none) (olr : ow lr ≠ k) (hrs : rv.size ≤ 1000)
    (hlh : s.heap.get? lh = some (listOf hs nh)) (nlh : lh ≠ L) (zlh : h₀.get? lh = none) (olh : ow lh ≠ k) (hhk : hs[k]? = some (.ref hk))
    (hd : s.heap.get? hk = some (dictK w xs nx)) (nhk : hk ≠ L) (zhk : h₀.get? hk = none) (ohk : ow hk ≠ k) (hsys : (hk == sysModules) = false) (hxs : Keyed prog w s.heap xs) (hxo : ∀ e ∈ xs, ∀ a, e.2.1 = .ref a → ow a = 98)
    (hlen : (recs.length : Int) = min ((k : Int) + 1) (rv.size : Int)) (hxl : xs.length = recs.length) (hlook : ∀ r ∈ recs, ∃ u, look xs r.key = some (.int r.i u))
    (m_caches : m (Str.ofString "caches") = some (.ref lc)) (m_k : m (Str.ofString "k") = some (.int k tk)) (m_recent : m (Str.ofString "recent") = some (.ref lr)) (m_held : m (Str.ofString "held") = some (.ref lh))
    (ret : ∀ h' tk', Fr h₀ L h' m → CacheAt prog w h' ow k h₀ L M gk c dc d recs → Keep s.heap h' (L :: c :: dc :: d :: adr recs) → Q .next { s with heap := h', toks := tk' }) :
    wpAny (model prog w) (ktrTop dp un gd cn lawScope L a ccd cl outer) (exec (nth lastB 0) (envX cn lawScope L a ccd cl)) Q E s := by
  conv =>
    arg 3
    arg 1
    whnf
  have N := alive_news (h₀ := h₀) (L := L) (h := s.heap) []
  have m1 := in_alive (ads := []) hlc nlc zlc (by simp)
  have m2 := in_alive (ads := []) C.inst (C.own _ (by simp)).2.1 (C.own _ (by simp)).2.2 (by simp)
  obtain ⟨tc1, tc2, tc3, tc4, tc5, tm, ta, hdc⟩ := C.dict
  have m3 := in_alive (ads := []) hdc (C.own _ (by simp)).2.1 (C.own _ (by simp)).2.2 (by simp)
  have hk0 : (0 : Int) ≤ (k : Int) := by omega
  have hk1 : (k : Int) < 2 ^ 63 := by omega
  have hk2 : cs[(k : Int).toNat]? = some (.ref c) := hck
  have hk3 : hs[(k : Int).toNat]? = some (.ref hk) := hhk
  k_steps
  unfold held
  refine C_len B F X T rfl (by first | omega | (dsimp only [ktrTop]; omega)) (by first | omega | (dsimp only [ktrTop]; omega)) hk98 C (fun h9 tk9 tl F9 C9 K9 => ?_)
  have own9 : ∀ a ∈ c :: dc :: d :: adr recs, ow a = k := fun a ha => (C.own a ha).1
  have st9 : ∀ a o, ow a ≠ k → s.heap.get? a = some o → h9.get? a = some o := fun a o n e => K9 a o e fun hm => n (own9 a hm)
  have N9 := alive_news (h₀ := h₀) (L := L) (h := h9) []
  have n1 := in_alive (ads := []) (st9 _ _ olc hlc) nlc zlc (by simp)
  have n2 := in_alive (ads := []) C9.inst (C.own _ (by simp)).2.1 (C.own _ (by simp)).2.2 (by simp)
  obtain ⟨tc1, tc2, tc3, tc4, tc5, tm, ta, hdc9⟩ := C9.dict
  have n3 := in_alive (ads := []) hdc9 (C.own _ (by simp)).2.1 (C.own _ (by simp)).2.2 (by simp)
  have n4 := in_alive (ads := []) (st9 _ _ olr hlr) nlr zlr (by simp)
  have n5 := in_alive (ads := []) (st9 _ _ olh hlh) nlh zlh (by simp)
  clear F N m1 m2 m3
  have hsm := C.small
  refine ⟨⟨by omega, by omega⟩, ?_⟩
  have S9 := F9.keep
  k_steps
  · exfalso
    rename_i e
    split at e <;> omega
  · (rename Fr h₀ L _ _ => F8); (rename News h₀ L _ _ => N8)
    have K8 := keep_alive S9 F8 N8 fun _ hp => hp
    have C8 := C9.keepL K8 hoL hk6
    unfold held
    refine C_items B F8 X T rfl (by first | omega | (dsimp only [ktrTop]; omega)) (by first | omega | (dsimp only [ktrTop]; omega)) hk98 C8 (fun h7 tk7 D ys F7 C7 K7 nD DL D0 Dsys hD kD lD kyD vD => ?_)
    have up7 : ∀ a o, ow a ≠ k → a ≠ L → s.heap.get? a = some o → h7.get? a = some o := fun a o n nl e => K7 _ _ (K8 _ _ (st9 _ _ n e) (by simpa using nl)) fun hm => n (own9 a hm)
    have N7 := alive_news (h₀ := h₀) (L := L) (h := h7) []
    have n7 := in_alive (ads := []) (up7 _ _ olh nlh hlh) nlh zlh (by simp)
    have hd7 := up7 _ _ ohk nhk hd
    clear F8 N8
    k_steps
    unfold held
    refine ne_dicts (by show un + _ < cLine; omega) Dsys hsys hD hd7 kD ⟨fun e he => ?_, hxs.nodup⟩ (by rw [lD, hxl]) (fun e he => ?_) ?_
    · refine (hxs.is e he).mono fun a o ev g _ => up7 a o (by rw [hxo e he a ev]; exact Ne.symm hk98) (fun q => ?_) g
      have := hxo e he a ev
      rw [q, hoL] at this
      cases this
    · obtain ⟨r, hr, er⟩ := List.mem_map.mp ((kyD e.1).mp (List.mem_map.mpr ⟨e, he, rfl⟩))
      obtain ⟨i, hi, ei⟩ := List.mem_iff_getElem.mp he
      have h1 := look_of_get kD.nodup (i := i) (k := e.1) (p := e.2) (by rw [List.getElem?_eq_getElem hi, ei])
      have h2 := vD r hr
      rw [er, h1] at h2
      obtain ⟨u, hu⟩ := hlook r hr
      rw [er] at hu
      exact ⟨r.i, r.vt, u, Option.some.inj h2, hu⟩
    · k_steps
      exact ret _ _ F7 C7 ((K9.thenL K8).trans K7 fun b hb => .inl (.tail _ hb))
end
end Mine
end
section
set_option maxRecDepth 100000
set_option linter.unusedVariables false
set_option linter.unusedSectionVars false
set_option maxHeartbeats 2000000
namespace Mine
open PySem PySem.W PySem.Spec PySem.Calls PyProof.Rows
theorem lastB_eq : lastB = [nth lastB 0] := rfl
section
variable {prog : Program} {w : World} {p : Program} {loose : List Str} {mean : ExcName → Option Value} {mg mb : Str → Option Value}
  {dp un : Nat} {gd : Option (List Code)} {cn : Str} {a : Addr} {ccd : Value} {cl : List (Str × Addr)} {outer : List Env} {A₀ : Around} {base h₀ : Heap} {L : Addr} {m : Str → Option Value} {s : Shared} {Q : Flow → Shared → Prop} {E : Value → Shared → Prop}
  {ow : Addr → Nat} {k : Nat} {q : Key} {key : Value} {tk tf ts tt : Tok} {far size turn : Int} {cg : Addr} {S : St} {g : Nat → Ix} {rec : KeyL}
variable (B : Below A₀ base outer h₀) (F : Fr h₀ L s.heap m) (X : (hd.heap_39 w.params).In h₀) (T : Top p loose mean mg mb h₀) (hdp : dp + 100 < recursionLimit) (hun : un + 1000 < cLine)
include B F X T hdp hun

theorem last_loop {keys : List Key} {b : Nat} (W : LawSt prog w s.heap ow h₀ L cg S g rec) (MO : MOk m S)
    (hkeys : rec.map (·.1) = keys) (hrel : ∀ j, j < 6 → RelK keys b j (g j)) (hrl : rec.length ≤ 99)
    (ret' : ∀ h' tk' m' ow', Fr h₀ L h' m' → MOk m' S → LawSt prog w h' ow' h₀ L cg S g rec → Keep95 ow s.heap ow' h' → Q .next { s with heap := h', toks := tk' }) :
    wpAny (model prog w) (ktrTop dp un gd cn lawScope L a ccd cl outer) (exec (nth turnB 5) (envX cn lawScope L a ccd cl)) Q E s := by
  conv =>
    arg 3
    arg 1
    whnf
  refine range6 B F X T hdp hun (fun h1 tk1 r t u v' F1 K1 R1 => ?_)
  have W1 := W.keep K1 nofun
  have q1 : Keep95 ow s.heap ow h1 := .of K1 nofun
  have hLI : L ≠ h1.objs.size := Nat.ne_of_lt F1.ns.lt
  have dead : ∀ b o, h1.get? b = some o → b ≠ h1.objs.size := fun b o e => Nat.ne_of_lt (Heap.lt_size e)
  refine range_heap (s := { s with heap := h1, toks := tk1 }) (n := 6) rfl R1 small6 size6 rfl rfl F1
    (fun i m₁ h => ∃ ow', LawSt prog w h ow' h₀ L cg S g rec ∧ MOk m₁ S ∧ Keep95 ow h1 ow' h ∧ ow' h1.objs.size = 95)
    (fun o => ?_) ?_ ?_ ?_
  · have he : ∀ b o, h1.get? b = some o → (fun b => if b = h1.objs.size then 95 else ow b) b = ow b := fun b o e => if_neg (dead b o e)
    have K : Keep h1 (h1.push o) [] := fun b o e _ => Heap.get?_push_of_some _ e
    refine ⟨fun b => if b = h1.objs.size then 95 else ow b, (W1.ext he (by rw [if_neg hLI]; exact W.oL)).keep K nofun, MO, fun b o' e q => ⟨Heap.get?_push_of_some _ e, (he b o' e).trans q⟩, if_pos rfl⟩
  · rintro i m₁ h h' ⟨ow', W', MO', q', hI⟩ K
    have ad : ∀ b ∈ [L, h1.objs.size], ow' b = 99 ∨ ow' b = 95 := by
      simp only [List.forall_mem_cons]
      exact ⟨.inl W'.oL, .inr hI, nofun⟩
    refine ⟨ow', W'.keep K (fun b hb => by have := ad b hb; omega), MO', fun b o e q => ?_, hI⟩
    have z := q' b o e q
    refine ⟨K b o z.1 (by
      simp only [List.mem_cons, List.not_mem_nil, or_false, not_or]
      exact ⟨fun e' => (by rw [e', W.oL] at q; cases q), dead b o e⟩), z.2⟩
  · rintro i m₁ h tk t' o hi ⟨ow', W', MO', q', hI⟩ ho F'
    have Xi := W'.ix i hi
    obtain ⟨nlc, cs, elc, hcs⟩ := W'.lc
    obtain ⟨nlh, hs, elh, hhs⟩ := W'.lh
    obtain ⟨nlr, elr⟩ := W'.lr
    have olc := W'.own98 S.lc (by simp)
    have olh := W'.own98 S.lh (by simp)
    have olr := W'.ownr
    have hlr : (g i).recs.length = min (i + 1) rec.length := by
      have := congrArg List.length (hrel i hi).1
      simpa [← hkeys] using this
    show wpAny _ _ (execs lastB _) _ _ _
    rw [lastB_eq]
    refine wpAny_execs_cons (O6 (s := { s with heap := h, toks := tk }) (k := i) B F' X T hdp hun (by omega) W'.oL Xi.cache elc olc.2.1 olc.2.2 (by rw [olc.1]; omega) (hcs i hi) hi elr olr.2.1 olr.2.2 (by rw [olr.1]; omega) (by rw [valsOf_size]; omega)
      elh olh.2.1 olh.2.2 (by rw [olh.1]; omega) (hhs i hi) Xi.held Xi.hown.2.1 Xi.hown.2.2 (by rw [Xi.hown.1]; omega) Xi.hsys Xi.keyed Xi.ko (by rw [valsOf_size, hlr]; omega) Xi.hlen Xi.hlook MO'.caches rfl MO'.recent MO'.held
      (fun h2 tk2 F2 C2 K2 => wpAny_execs_nil ?_))
    have ad2 : ∀ b ∈ L :: (g i).c :: (g i).dc :: (g i).d :: adr (g i).recs, ow' b = i ∨ ow' b = 99 := fun b hb => by
      rcases List.mem_cons.mp hb with rfl | hb
      · exact .inr W'.oL
      · exact .inl (Xi.cache.own b hb).1
    have W2 : LawSt prog w h2 ow' h₀ L cg S g rec := by
      have := W'.cacheStep hi C2 K2 ad2 (.refl _)
      rwa [show ({ g i with recs := (g i).recs } : Ix) = g i from rfl, updG_self] at this
    have q2 : Keep95 ow' h ow' h2 := .of K2 (fun b hb => by have := ad2 b hb; omega)
    exact ⟨rfl, h2, tk2, _, rfl, F2, ⟨ow', W2, ⟨MO'.caches, MO'.held, MO'.teller, MO'.recent, MO'.cells⟩, q'.trans q2, hI⟩, (q2 _ _ ho hI).1⟩
  · rintro m' h tk F' ⟨ow', W', MO', q', hI⟩
    exact ret' h tk m' ow' F' MO' W' (q1.trans q')
end
end Mine
end
section
theorem Mine.off_LawO1 : True := by w_top off; exact True.intro
set_option maxRecDepth 100000
set_option linter.unusedVariables false
set_option linter.unusedSectionVars false
set_option maxHeartbeats 1000000
namespace Mine
open PySem PySem.W PySem.Spec PySem.Calls PyProof.Rows
theorem fillO1 : (PySem.Challenge.rw_bb0035_01 = PySem.Challenge.rw_bb0035_01) ∧ (hd.heap_39 = hd.heap_39) := by k_fill; exact ⟨rfl, rfl⟩
local macro_rules | `(tactic| k_room) => `(tactic| ktr_room)
local macro_rules | `(tactic| k_units) => `(tactic| ktr_units)
local macro_rules | `(tactic| k_mem) => `(tactic| with_reducible assumption)
local macro_rules | `(tactic| walk_at "eval Name") => `(tactic| (k_here; k_dflt (refine' nameX_L ?F ?v ?_ ?a ?b; (case F => k_asm); (case a => rfl); (case b => rfl); (case v => first | with_reducible assumption | rfl | assumption); k_whole)))
local macro_rules | `(tactic| walk_at "subscriptTail") => `(tactic| (k_here; (with_reducible show wpAny _ _ (subscriptTail _ _ (Value.ref _) (Value.int _ _)) _ _ _); k_dflt (refine' item_mem ?F ?l ?a ?b ?c ?_ ?d; (case F => k_asm); (case l => k_mem); (case a => k_asm); (case b => k_asm); (case c => k_asm); (case d => with_unfolding_all rfl); k_whole)))
local macro_rules | `(tactic| walk_at "eval Name") => `(tactic| (k_here; k_dflt (refine' nameX_C ?N ?c ?m ?d ?_ ?a ?b; (case a => rfl); (case b => rfl); (case N => k_asm); (case c => with_reducible assumption); (case m => k_mem); (case d => with_reducible assumption); k_whole)))
local macro_rules | `(tactic| k_mem) => `(tactic| first | with_reducible assumption | exact List.Mem.head _ | (refine' List.mem_cons_of_mem _ ?_; k_mem))
local macro_rules | `(tactic| k_ne) => `(tactic| first | (refine neN ?_; (try dsimp only); first | with_reducible assumption | exact Ne.symm (by with_reducible assumption)) | (refine neN ?_; (try dsimp only); omega))
local macro_rules | `(tactic| k_all) => `(tactic| first | with_reducible assumption | exact List.forall_mem_nil _ | (refine' List.forall_mem_cons.mpr ⟨?a, ?b⟩; (case a => k_ne); (case b => k_all)))

theorem lawKey {prog : Program} {w : World} {h : Heap} {D : Addr} {t0 t1 t2 t3 t4 t5 t6 t7 u1 u2 : Tok} (hD : h.get? D = some (tupOf [.int 1 u1, .int 2 u2])) (j : Nat)
    (hj : j < (#[Value.int 0 t0, Value.int 1 t1, Value.str (Str.ofString "") t2, Value.str (Str.ofString "a") t3, Value.bytes #[97] t4, Value.ref D, Value.int (-1) t5, Value.str (Str.ofString "b") t6, Value.int 10000000000 t7] : Array Value).size) :
    ∃ q, IsKey prog w h q (#[Value.int 0 t0, Value.int 1 t1, Value.str (Str.ofString "") t2, Value.str (Str.ofString "a") t3, Value.bytes #[97] t4, Value.ref D, Value.int (-1) t5, Value.str (Str.ofString "b") t6, Value.int 10000000000 t7] : Array Value)[j] ∧
      ∀ a, (#[Value.int 0 t0, Value.int 1 t1, Value.str (Str.ofString "") t2, Value.str (Str.ofString "a") t3, Value.bytes #[97] t4, Value.ref D, Value.int (-1) t5, Value.str (Str.ofString "b") t6, Value.int 10000000000 t7] : Array Value)[j] = .ref a → a = D := by
  match j, hj with
  | 0, _ => exact ⟨_, .int _ _, fun a e => by cases e⟩
  | 1, _ => exact ⟨_, .int _ _, fun a e => by cases e⟩
  | 2, _ => exact ⟨_, .str _ _, fun a e => by cases e⟩
  | 3, _ => exact ⟨_, .str _ _, fun a e => by cases e⟩
  | 4, _ => exact ⟨_, .bytes [97] _, fun a e => by cases e⟩
  | 5, _ => exact ⟨.tup [1, 2], .tup ⟨_, _, _, hD, rfl, rfl, .cons rfl (.cons rfl .nil)⟩, fun a e => by cases e; rfl⟩
  | 6, _ => exact ⟨_, .int _ _, fun a e => by cases e⟩
  | 7, _ => exact ⟨_, .str _ _, fun a e => by cases e⟩
  | 8, _ => exact ⟨_, .int _ _, fun a e => by cases e⟩
  | n + 9, hn => exact absurd hn (by simp)
theorem item_keys {prog : Program} {w : World} {A : Around} {E : Value → Shared → Prop} {s : Shared} {h₀ : Heap} {L l D : Addr} {news : List (Addr × Obj)} {n : Nat} {k : Int} {u : Tok} {Q : Value → Shared → Prop} {value slice : PySem.Expr} {t0 t1 t2 t3 t4 t5 t6 t7 u1 u2 : Tok}
    (N : News h₀ L s.heap news) (hm : (l, listOf #[Value.int 0 t0, Value.int 1 t1, Value.str (Str.ofString "") t2, Value.str (Str.ofString "a") t3, Value.bytes #[97] t4, Value.ref D, Value.int (-1) t5, Value.str (Str.ofString "b") t6, Value.int 10000000000 t7] n) ∈ news)
    (hD : (D, tupOf [.int 1 u1, .int 2 u2]) ∈ news) (h0 : 0 ≤ k) (h9 : k < 9) (h : ∀ key q, IsKey prog w s.heap q key → (∀ a, key = .ref a → a = D) → Q key s)
    (hs : subscripted slice false (.ref l) (.int k u) = operate [.ref l, .int k u] (getItem (.ref l) (.int k u))) : wpAny (model prog w) A (subscriptTail value slice (.ref l) (.int k u)) Q E s := by
  have hj : k.toNat < (#[Value.int 0 t0, Value.int 1 t1, Value.str (Str.ofString "") t2, Value.str (Str.ofString "a") t3, Value.bytes #[97] t4, Value.ref D, Value.int (-1) t5, Value.str (Str.ofString "b") t6, Value.int 10000000000 t7] : Array Value).size := by
    show k.toNat < 9
    omega
  obtain ⟨q, e1, e2⟩ := lawKey (prog := prog) (w := w) (N.get hD) k.toNat hj
  exact item_mem N hm h0 (by omega) (Array.getElem?_eq_getElem hj) (h _ q e1 e2) hs
section
variable {prog : Program} {w : World} {p : Program} {loose : List Str} {mean : ExcName → Option Value} {mg mb : Str → Option Value}
  {dp un : Nat} {gd : Option (List Code)} {cn : Str} {a : Addr} {ccd : Value} {cl : List (Str × Addr)} {outer : List Env} {A₀ : Around} {base h₀ : Heap} {L : Addr} {m : Str → Option Value} {s : Shared} {Q : Flow → Shared → Prop} {E : Value → Shared → Prop}
  {ow : Addr → Nat} {k : Nat} {M : Int} {gk c dc d : Addr} {recs : List Rec} {q : Key} {key : Value} {tk tf ts tt : Tok} {far size turn : Int} {lc : Addr} {cs : Array Value} {nc : Nat}
variable (B : Below A₀ base outer h₀) (F : Fr h₀ L s.heap m) (X : (hd.heap_39 w.params).In h₀) (T : Top p loose mean mg mb h₀) (hdp : dp + 100 < recursionLimit) (hun : un + 1000 < cLine)
include B F X T hdp hun

/-- key = _law_keys()[cells[turn] % 9] -/
theorem O1 {lv : Addr} {cv : Array Value} {nv : Nat} {v : Int} {tv : Tok}
    (hlv : s.heap.get? lv = some (listOf cv nv)) (nlv : lv ≠ L) (zlv : h₀.get? lv = none) (htu : 0 ≤ turn) (htu2 : turn < 24) (hcv : cv[turn.toNat]? = some (.int v tv))
    (m_cells : m (Str.ofString "cells") = some (.ref lv)) (m_turn : m (Str.ofString "turn") = some (.int turn tt))
    (ret : ∀ h' tk' q key, Fr h₀ L h' (fun y => if y = Str.ofString "key" then some key else m y) → Keep s.heap h' [L] → IsKey prog w h' q key → (∀ a, key = .ref a → s.heap.get? a = none ∧ a ≠ L ∧ h₀.get? a = none) → Q .next { s with heap := h', toks := tk' }) :
    wpAny (model prog w) (ktrTop dp un gd cn lawScope L a ccd cl outer) (exec (nth turnB 0) (envX cn lawScope L a ccd cl)) Q E s := by
  conv =>
    arg 3
    arg 1
    whnf
  have N := alive_news (h₀ := h₀) (L := L) (h := s.heap) []
  have m4 := in_alive (ads := []) hlv nlv zlv (by simp)
  have ht1 : turn < 2 ^ 63 := by omega
  have hkf : (envX cn lawScope L a ccd cl).scope.kind = ScopeKind.function := rfl
  have S0 : h₀.StaysIn s.heap := F.keep
  k_steps
  have hj0 : 0 ≤ v.fmod 9 := Int.fmod_nonneg_of_pos _ (by decide)
  have hj9 : v.fmod 9 < 9 := Int.fmod_lt_of_pos _ (by decide)
  (rename News h₀ L _ _ => N8)
  (rename ∀ p ∈ alive h₀ L s.heap [], p.1 < _ => l8)
  have eD := N8 _ (.tail _ (.head _))
  have fD := newIn_alive eD.2.2 eD.2.1 l8 (by simp)
  refine item_keys N8 (.head _) (.tail _ (.head _)) hj0 hj9 (fun key q e1 e2 => ?_) (by with_unfolding_all rfl)
  k_steps
  (rename Fr h₀ L _ _ => F7); (rename News h₀ L _ _ => N7)
  refine ret _ _ q key F7 (keep_alive S0 F7 N7 fun _ hp => .tail _ (.tail _ hp)) ?_ (fun a e => ?_)
  · refine e1.mono fun a o e g _ => ?_
    have := e2 a e
    subst this
    rw [eD.1] at g
    rw [← Option.some.inj g]
    exact (N7 _ (.tail _ (.head _))).1
  · have := e2 a e
    subst this
    exact ⟨fD, eD.2⟩
end
end Mine
end
section
theorem Mine.off_LawO2 : True := by w_top off; exact True.intro
set_option maxRecDepth 100000
set_option linter.unusedVariables false
set_option linter.unusedSectionVars false
set_option maxHeartbeats 1000000
namespace Mine
open PySem PySem.W PySem.Spec PySem.Calls PyProof.Rows
theorem fillO2 : (PySem.Challenge.rw_bb0035_01 = PySem.Challenge.rw_bb0035_01) ∧ (hd.heap_39 = hd.heap_39) := by k_fill; exact ⟨rfl, rfl⟩
local macro_rules | `(tactic| k_room) => `(tactic| ktr_room)
local macro_rules | `(tactic| k_units) => `(tactic| ktr_units)
local macro_rules | `(tactic| k_mem) => `(tactic| with_reducible assumption)
local macro_rules | `(tactic| walk_at "eval Name") => `(tactic| (k_here; k_dflt (refine' nameX_L ?F ?v ?_ ?a ?b; (case F => k_asm); (case a => rfl); (case b => rfl); (case v => first | with_reducible assumption | rfl | assumption); k_whole)))
local macro_rules | `(tactic| walk_at "subscriptTail") => `(tactic| (k_here; (with_reducible show wpAny _ _ (subscriptTail _ _ (Value.ref _) (Value.int _ _)) _ _ _); k_dflt (refine' item_mem ?F ?l ?a ?b ?c ?_ ?d; (case F => k_asm); (case l => k_mem); (case a => k_asm); (case b => k_asm); (case c => k_asm); (case d => with_unfolding_all rfl); k_whole)))
local macro_rules | `(tactic| walk_at "eval Name") => `(tactic| (k_here; k_dflt (refine' nameX_C ?N ?c ?m ?d ?_ ?a ?b; (case a => rfl); (case b => rfl); (case N => k_asm); (case c => with_reducible assumption); (case m => k_mem); (case d => with_reducible assumption); k_whole)))
local macro_rules | `(tactic| k_mem) => `(tactic| first | with_reducible assumption | exact List.Mem.head _ | (refine' List.mem_cons_of_mem _ ?_; k_mem))
local macro_rules | `(tactic| k_ne) => `(tactic| first | (refine neN ?_; (try dsimp only); first | with_reducible assumption | exact Ne.symm (by with_reducible assumption)) | (refine neN ?_; (try dsimp only); omega))
local macro_rules | `(tactic| k_all) => `(tactic| first | with_reducible assumption | exact List.forall_mem_nil _ | (refine' List.forall_mem_cons.mpr ⟨?a, ?b⟩; (case a => k_ne); (case b => k_all)))
local macro_rules | `(tactic| walk_at "compareOp In") => `(tactic| (k_here; (with_reducible show wpAny _ _ (compareOp CmpOp.In _ (Value.ref _)) _ _ _); k_dflt (refine' in_listK ?hu ?hl ?hr ?hk ?_; (case hu => ktr_units); (case hl => with_reducible assumption); (case hr => with_reducible assumption); (case hk => with_reducible assumption); k_whole)))
local macro_rules | `(tactic| walk_at "call builtin:list.index") => `(tactic| (k_here; k_dflt (refine' index_listK ?hu ?hl ?hr ?hk ?hn ?hs ?_; (case hu => ktr_units); (case hl => with_reducible assumption); (case hr => with_reducible assumption); (case hk => with_reducible assumption); (case hn => with_reducible assumption); (case hs => with_reducible assumption); k_whole); intro t8 tk8))
theorem Keep.back {h h' : Heap} {x : Addr} {o : Obj} {as : List Addr} (k : Keep h h' (as ++ [x])) (e : h.get? x = some o) (e' : h'.get? x = some o) : Keep h h' as := fun a oa ea n => by
  by_cases hx : a = x
  · subst hx; rw [e] at ea; rw [← Option.some.inj ea]; exact e'
  · exact k a oa ea fun hm => (List.mem_append.mp hm).elim n fun q => hx (List.mem_singleton.mp q)
theorem remove_LK {prog : Program} {w : World} {A : Around} {E : Value → Shared → Prop} {s : Shared} {h₀ : Heap} {L l : Addr} {m : Str → Option Value} {news news' : List (Addr × Obj)} {n : Nat} {P S : KeyL} {kx : Key} {key v : Value} {Q : Value → Shared → Prop} (F : Fr h₀ L s.heap m) (N : News h₀ L s.heap news)
    (U : Upd l (listOf (valsOf (P ++ (kx, v) :: S)).toArray n) (listOf (valsOf (P ++ S)).toArray (n + 1)) news news') (hu : A.in1.units < cLine) (hr : KeysL prog w s.heap (P ++ (kx, v) :: S)) (hk : IsKey prog w s.heap kx key)
    (hno : kx ∉ P.map (·.1)) (hsm : (P ++ (kx, v) :: S).length < 1000) (h : ∀ h', Fr h₀ L h' m → News h₀ L h' news' → Q .none { s with heap := h' }) : wpAny (model prog w) A (call (.builtin "list.remove") [.ref l, key]) Q E s := by
  obtain ⟨pre, post, rfl, rfl, a, b⟩ := U.split
  have z := N (l, listOf (valsOf (P ++ (kx, v) :: S)).toArray n) (List.mem_append.mpr (.inr (.head _)))
  exact remove_listK hu z.1 hr hk hno hsm fun h' ho' hs => h h' (F.change hs z.2.1 z.2.2) (news_set N a b hs ho')
local macro_rules | `(tactic| walk_at "call builtin:list.remove") => `(tactic| (k_here; k_dflt (refine' remove_LK ?F ?N ?U ?hu ?hr ?hk ?hn ?hs ?_; (case F => k_asm); (case N => k_asm); (case U => k_upd); (case hu => ktr_units); (case hr => with_reducible assumption); (case hk => with_reducible assumption); (case hn => with_reducible assumption); (case hs => with_reducible assumption); k_whole); intro h9 F' N'; (try k_sweep)))
local macro_rules | `(tactic| walk_at "call builtin:list.insert") => `(tactic| (k_here; (with_reducible show wpAny _ _ (call (Value.builtin _) [Value.ref _, Value.int _ _, _]) _ _ _); k_dflt (refine' kl_insert ?F ?N ?f ?e ?U ?z ?_; (case F => k_asm); (case N => k_asm); (case e => with_reducible assumption); (case U => k_upd); (case f => rfl); (case z => with_reducible assumption)); intro h9 F' N'; (try k_sweep)))
section
variable {prog : Program} {w : World} {p : Program} {loose : List Str} {mean : ExcName → Option Value} {mg mb : Str → Option Value}
  {dp un : Nat} {gd : Option (List Code)} {cn : Str} {a : Addr} {ccd : Value} {cl : List (Str × Addr)} {outer : List Env} {A₀ : Around} {base h₀ : Heap} {L : Addr} {m : Str → Option Value} {s : Shared} {Q : Flow → Shared → Prop} {E : Value → Shared → Prop}
  {ow : Addr → Nat} {k : Nat} {M : Int} {gk c dc d : Addr} {recs : List Rec} {q : Key} {key : Value} {tk tf ts tt : Tok} {far size turn : Int} {lc : Addr} {cs : Array Value} {nc : Nat}
variable (B : Below A₀ base outer h₀) (F : Fr h₀ L s.heap m) (X : (hd.heap_39 w.params).In h₀) (T : Top p loose mean mg mb h₀) (hdp : dp + 100 < recursionLimit) (hun : un + 1000 < cLine)
include B F X T hdp hun

/-- far = recent.index(key) if key in recent else 99: there -/
theorem O2h {lr : Addr} {P S : KeyL} {v : Value} {nr : Nat} (hlr : s.heap.get? lr = some (listOf (valsOf (P ++ (q, v) :: S)).toArray nr)) (nlr : lr ≠ L) (zlr : h₀.get? lr = none)
    (hr : KeysL prog w s.heap (P ++ (q, v) :: S)) (hkx : IsKey prog w s.heap q key) (hno : q ∉ P.map (·.1)) (hsm : P.length < 1000)
    (m_key : m (Str.ofString "key") = some key) (m_recent : m (Str.ofString "recent") = some (.ref lr))
    (ret : ∀ h' tk' t, Fr h₀ L h' (fun y => if y = Str.ofString "far" then some (.int P.length t) else m y) → Keep s.heap h' [L] → Q .next { s with heap := h', toks := tk' }) :
    wpAny (model prog w) (ktrTop dp un gd cn lawScope L a ccd cl outer) (exec (nth turnB 1) (envX cn lawScope L a ccd cl)) Q E s := by
  conv =>
    arg 3
    arg 1
    whnf
  have N : News h₀ L s.heap ((lr, listOf (valsOf (P ++ (q, v) :: S)).toArray nr) :: alive h₀ L s.heap [lr]) := news_cons ⟨hlr, nlr, zlr⟩ (alive_news _)
  have S0 : h₀.StaysIn s.heap := F.keep
  have hin : (decide (q ∈ (P ++ (q, v) :: S).map (·.1))) = true := decide_eq_true (by simp)
  k_steps
  (rename Fr h₀ L _ _ => F8); (rename News h₀ L _ _ => N8)
  exact ret _ _ _ F8 (Keep.back (keep_alive S0 F8 N8 fun _ hp => .tail _ hp) hlr (N8 _ (.head _)).1)
theorem O2m {lr : Addr} {rs : KeyL} {nr : Nat} (hlr : s.heap.get? lr = some (listOf (valsOf rs).toArray nr)) (nlr : lr ≠ L) (zlr : h₀.get? lr = none)
    (hr : KeysL prog w s.heap rs) (hkx : IsKey prog w s.heap q key) (hno : q ∉ rs.map (·.1))
    (m_key : m (Str.ofString "key") = some key) (m_recent : m (Str.ofString "recent") = some (.ref lr))
    (ret : ∀ h' tk' t, Fr h₀ L h' (fun y => if y = Str.ofString "far" then some (.int 99 t) else m y) → Keep s.heap h' [L] → Q .next { s with heap := h', toks := tk' }) :
    wpAny (model prog w) (ktrTop dp un gd cn lawScope L a ccd cl outer) (exec (nth turnB 1) (envX cn lawScope L a ccd cl)) Q E s := by
  conv =>
    arg 3
    arg 1
    whnf
  have N : News h₀ L s.heap ((lr, listOf (valsOf rs).toArray nr) :: alive h₀ L s.heap [lr]) := news_cons ⟨hlr, nlr, zlr⟩ (alive_news _)
  have S0 : h₀.StaysIn s.heap := F.keep
  have hin : (decide (q ∈ rs.map (·.1))) = false := decide_eq_false hno
  k_steps
  (rename Fr h₀ L _ _ => F8); (rename News h₀ L _ _ => N8)
  exact ret _ _ _ F8 (Keep.back (keep_alive S0 F8 N8 fun _ hp => .tail _ hp) hlr (N8 _ (.head _)).1)
/-- if key in recent: recent.remove(key) -/
theorem O4h {lr : Addr} {P S : KeyL} {v : Value} {nr : Nat} (hlr : s.heap.get? lr = some (listOf (valsOf (P ++ (q, v) :: S)).toArray nr)) (nlr : lr ≠ L) (zlr : h₀.get? lr = none)
    (hr : KeysL prog w s.heap (P ++ (q, v) :: S)) (hkx : IsKey prog w s.heap q key) (hno : q ∉ P.map (·.1)) (hsm : (P ++ (q, v) :: S).length < 1000)
    (m_key : m (Str.ofString "key") = some key) (m_recent : m (Str.ofString "recent") = some (.ref lr))
    (ret : ∀ h' tk' nr', Fr h₀ L h' m → Keep s.heap h' [L, lr] → h'.get? lr = some (listOf (valsOf (P ++ S)).toArray nr') → Q .next { s with heap := h', toks := tk' }) :
    wpAny (model prog w) (ktrTop dp un gd cn lawScope L a ccd cl outer) (exec (nth turnB 3) (envX cn lawScope L a ccd cl)) Q E s := by
  conv =>
    arg 3
    arg 1
    whnf
  have N : News h₀ L s.heap ((lr, listOf (valsOf (P ++ (q, v) :: S)).toArray nr) :: alive h₀ L s.heap [lr]) := news_cons ⟨hlr, nlr, zlr⟩ (alive_news _)
  have a2 : ∀ p ∈ alive h₀ L s.heap [lr], p.1 ≠ lr := fun p hp e => (mem_alive.mp hp).2.2.2 (by rw [e]; simp)
  have S0 : h₀.StaysIn s.heap := F.keep
  have hin : (decide (q ∈ (P ++ (q, v) :: S).map (·.1))) = true := decide_eq_true (by simp)
  k_steps
  (rename Fr h₀ L _ _ => F8); (rename News h₀ L _ _ => N8)
  exact ret _ _ _ F8 (keep_alive S0 F8 N8 fun _ hp => .tail _ hp) (N8 _ (.head _)).1
theorem O4m {lr : Addr} {rs : KeyL} {nr : Nat} (hlr : s.heap.get? lr = some (listOf (valsOf rs).toArray nr)) (nlr : lr ≠ L) (zlr : h₀.get? lr = none)
    (hr : KeysL prog w s.heap rs) (hkx : IsKey prog w s.heap q key) (hno : q ∉ rs.map (·.1))
    (m_key : m (Str.ofString "key") = some key) (m_recent : m (Str.ofString "recent") = some (.ref lr))
    (ret : ∀ tk', Q .next { s with toks := tk' }) :
    wpAny (model prog w) (ktrTop dp un gd cn lawScope L a ccd cl outer) (exec (nth turnB 3) (envX cn lawScope L a ccd cl)) Q E s := by
  conv =>
    arg 3
    arg 1
    whnf
  have N : News h₀ L s.heap ((lr, listOf (valsOf rs).toArray nr) :: alive h₀ L s.heap [lr]) := news_cons ⟨hlr, nlr, zlr⟩ (alive_news _)
  have S0 : h₀.StaysIn s.heap := F.keep
  have hin : (decide (q ∈ rs.map (·.1))) = false := decide_eq_false hno
  k_steps
  exact ret _
/-- recent.insert(0, key) -/
theorem O5 {lr : Addr} {rs : KeyL} {nr : Nat} (hlr : s.heap.get? lr = some (listOf (valsOf rs).toArray nr)) (nlr : lr ≠ L) (zlr : h₀.get? lr = none) (hsm : (valsOf rs).toArray.toList.length ≤ sizeLine)
    (m_key : m (Str.ofString "key") = some key) (m_recent : m (Str.ofString "recent") = some (.ref lr))
    (ret : ∀ h' tk' nr', Fr h₀ L h' m → Keep s.heap h' [L, lr] → h'.get? lr = some (listOf (valsOf ((q, key) :: rs)).toArray nr') → Q .next { s with heap := h', toks := tk' }) :
    wpAny (model prog w) (ktrTop dp un gd cn lawScope L a ccd cl outer) (exec (nth turnB 4) (envX cn lawScope L a ccd cl)) Q E s := by
  conv =>
    arg 3
    arg 1
    whnf
  have N : News h₀ L s.heap ((lr, listOf (valsOf rs).toArray nr) :: alive h₀ L s.heap [lr]) := news_cons ⟨hlr, nlr, zlr⟩ (alive_news _)
  have a2 : ∀ p ∈ alive h₀ L s.heap [lr], p.1 ≠ lr := fun p hp e => (mem_alive.mp hp).2.2.2 (by rw [e]; simp)
  have he : kl_ins (valsOf rs).toArray.toList 0 key = valsOf ((q, key) :: rs) := by simp [kl_ins, valsOf]
  have S0 : h₀.StaysIn s.heap := F.keep
  k_steps
  (rename Fr h₀ L _ _ => F8); (rename News h₀ L _ _ => N8)
  exact ret _ _ _ F8 (keep_alive S0 F8 N8 fun _ hp => .tail _ hp) (N8 _ (.head _)).1
end
end Mine
end
section
set_option maxRecDepth 100000
set_option linter.unusedVariables false
set_option linter.unusedSectionVars false
set_option maxHeartbeats 2000000
namespace Mine
open PySem PySem.W PySem.Spec PySem.Calls PyProof.Rows
theorem turnB_eq : turnB = [nth turnB 0, nth turnB 1, nth turnB 2, nth turnB 3, nth turnB 4, nth turnB 5] := rfl
section
variable {prog : Program} {w : World} {h h' : Heap} {ow : Addr → Nat} {h₀ : Heap} {L cg : Addr} {S : St} {g : Nat → Ix} {rec rec' : KeyL}
/-- the list of what was asked for last changes -/
theorem LawSt.recent {n : Nat} (W : LawSt prog w h ow h₀ L cg S g rec) (kk : Keep h h' [L, S.lr]) (hlr : h'.get? S.lr = some (listOf (valsOf rec').toArray n)) (hkeys : ∀ p ∈ rec', IsKeyW prog w h ow p.1 p.2) (hnd : (rec'.map (·.1)).Nodup) : LawSt prog w h' ow h₀ L cg S g rec' := by
  have ad : ∀ a ∈ [L, S.lr], ow a = 99 ∨ ow a = 97 := by
    simp only [List.forall_mem_cons]
    exact ⟨.inl W.oL, .inr W.ownr.1, nofun⟩
  have go : ∀ a o, h.get? a = some o → (ow a ≤ 93 ∨ ow a = 96 ∨ ow a = 98) → h'.get? a = some o := fun a o e n => kk a o e fun hm => by have := ad a hm; omega
  have o98 : ∀ a o, a ∈ [S.lc, S.lh, S.lv] → h.get? a = some o → h'.get? a = some o := fun a o ha e => go a o e (by rw [(W.own98 a ha).1]; decide)
  exact {
    ix := fun k hk => (W.ix k hk).keep fun a o e q => go a o e (by omega)
    lc := let ⟨n, cs, e, q⟩ := W.lc; ⟨n, cs, o98 _ _ (by simp) e, q⟩
    tell := let ⟨gs, t, q⟩ := W.tell; ⟨gs, t.keep kk (fun a ha => by have := ad a ha; omega) (fun _ _ _ => rfl), q⟩
    lh := let ⟨n, hs, e, q⟩ := W.lh; ⟨n, hs, o98 _ _ (by simp) e, q⟩
    lr := ⟨_, hlr⟩
    lv := let ⟨n, e⟩ := W.lv; ⟨n, o98 _ _ (by simp) e⟩
    own98 := W.own98
    ownr := W.ownr
    keys := fun p hp => (hkeys p hp).keepB kk fun a ha => by have := ad a ha; omega
    nodup := hnd
    oL := W.oL }
end
section
variable {prog : Program} {w : World} {p : Program} {loose : List Str} {mean : ExcName → Option Value} {mg mb : Str → Option Value}
  {dp un : Nat} {gd : Option (List Code)} {cn : Str} {a : Addr} {ccd : Value} {cl : List (Str × Addr)} {outer : List Env} {A₀ : Around} {base h₀ : Heap} {L : Addr} {m : Str → Option Value} {s : Shared} {Q : Flow → Shared → Prop} {E : Value → Shared → Prop}
  {ow : Addr → Nat} {k : Nat} {q : Key} {key : Value} {tk tf ts tt : Tok} {far size turn : Int} {cg : Addr} {S : St} {g : Nat → Ix} {rec : KeyL}
variable (B : Below A₀ base outer h₀) (F : Fr h₀ L s.heap m) (X : (hd.heap_39 w.params).In h₀) (T : Top p loose mean mg mb h₀) (hdp : dp + 100 < recursionLimit) (hun : un + 1000 < cLine)
include B F X T hdp hun

/-- from the asked key on -/
theorem turn_tail {keys : List Key} {b : Nat} {v : Int} {tv : Tok} (hBase : h₀ = base) (W : LawSt prog w s.heap ow h₀ L cg S g rec) (MO : MOk m S) (m_turn : m (Str.ofString "turn") = some (.int turn tt)) (m_key : m (Str.ofString "key") = some key)
    (hkx : IsKeyW prog w s.heap ow q key) (hkeys : rec.map (·.1) = keys) (hrel : ∀ j, j < 6 → RelK keys b j (g j)) (hrl : rec.length ≤ 98) (hb : b ≤ 98)
    (htu : 0 ≤ turn) (htu2 : turn < 24) (hcv : S.cv[turn.toNat]? = some (.int v tv)) (hcl : cl.lookup (Str.ofString "gone") = some cg)
    (ret : ∀ h' tk' m' ow' g' rec', Fr h₀ L h' m' → MOk m' S → LawSt prog w h' ow' h₀ L cg S g' rec' → Keep95 ow s.heap ow' h' → (∀ j, j < 6 → RelK (rec'.map (·.1)) (b + 1) j (g' j)) → rec'.length ≤ rec.length + 1 → Q .next { s with heap := h', toks := tk' }) :
    wpAny (model prog w) (ktrTop dp un gd cn lawScope L a ccd cl outer) (execs [nth turnB 1, nth turnB 2, nth turnB 3, nth turnB 4, nth turnB 5] (envX cn lawScope L a ccd cl)) Q E s := by
  have hkn : keys.Nodup := hkeys ▸ W.nodup
  obtain ⟨nlr, elr⟩ := W.lr
  have olr := W.ownr
  have adL : ∀ b ∈ [L], ow b = 99 := fun b hb => by rw [List.mem_singleton.mp hb]; exact W.oL
  have adR : ∀ ow' : Addr → Nat, ow' L = 99 → ow' S.lr = 97 → ∀ b ∈ [L, S.lr], ow' b = 99 ∨ ow' b = 97 := fun ow' e1 e2 => by
    simp only [List.forall_mem_cons]
    exact ⟨.inl e1, .inr e2, nofun⟩
  by_cases hin : q ∈ keys
  · obtain ⟨pq, hpq, hpq1⟩ := List.mem_map.mp (hkeys ▸ hin)
    obtain ⟨P, R, hre⟩ := List.append_of_mem hpq
    obtain ⟨q', v'⟩ := pq
    simp only at hpq1
    subst hpq1
    have hks : keys = P.map (·.1) ++ q' :: R.map (·.1) := by rw [← hkeys, hre]; simp
    have hnP : q' ∉ P.map (·.1) := fun h => by
      rw [hks, List.nodup_append] at hkn
      exact hkn.2.2 _ h _ (.head _) rfl
    have hKL : KeysL prog w s.heap (P ++ (q', v') :: R) := fun p hp => (W.keys p (hre ▸ hp)).1
    have hlen : P.length + (R.length + 1) ≤ 98 := by have := congrArg List.length hre; simp at this; omega
    refine wpAny_execs_cons (O2h B F X T hdp hun (by rw [← hre]; exact elr) olr.2.1 olr.2.2 hKL hkx.1 hnP (by omega) m_key MO.recent (fun h1 tk1 t1 F1 K1 => ?_))
    have W1 := W.keep K1 (fun b hb => by rw [adL b hb]; decide)
    have k1 := hkx.keepB K1 (fun b hb => by rw [adL b hb]; decide)
    have q1 : Keep95 ow s.heap ow h1 := .of K1 (fun b hb => by rw [adL b hb]; decide)
    have hfar : ∀ j : Nat, j < 6 → (q' ∈ keys.take (j + 1) ↔ (P.length : Int) < (j : Int) + 1) := fun j _ => by
      rw [hks]
      constructor
      · intro hm
        refine Classical.byContradiction fun hc => ?_
        rw [List.take_append_of_le_length (by rw [List.length_map]; omega)] at hm
        exact hnP (List.mem_of_mem_take hm)
      · intro hlt
        refine List.mem_iff_getElem?.mpr ⟨P.length, ?_⟩
        rw [List.getElem?_take_of_lt (by omega), List.getElem?_append_right (by simp)]
        simp
    refine wpAny_execs_cons (inner_loop (s := { s with heap := h1, toks := tk1 }) B F1 X T hdp hun hBase W1 ⟨MO.caches, MO.held, MO.teller, MO.recent, MO.cells⟩ ⟨m_turn, m_key, rfl⟩ k1 hkeys hrel hfar (by omega) (by omega) htu htu2 hcv hcl (fun h2 tk2 m2 ow2 g2 F2 MO2 MT2 W2 k2 q2 r2 => ?_))
    obtain ⟨nlr2, elr2⟩ := W2.lr
    have olr2 := W2.ownr
    have hKL2 : KeysL prog w h2 (P ++ (q', v') :: R) := fun p hp => (W2.keys p (hre ▸ hp)).1
    refine wpAny_execs_cons (O4h (s := { s with heap := h2, toks := tk2 }) B F2 X T hdp hun (by rw [← hre]; exact elr2) olr2.2.1 olr2.2.2 hKL2 k2.1 hnP (by simp only [List.length_append, List.length_cons]; omega) MT2.key MO2.recent (fun h3 tk3 n3 F3 K3 e3 => ?_))
    have hnd2 : ((P ++ R).map (·.1)).Nodup := by
      have := W2.nodup
      rw [hre] at this
      exact List.Sublist.nodup ((List.Sublist.append_left (List.sublist_cons_self _ _) P).map _) this
    have W3 := W2.recent K3 e3 (fun p hp => W2.keys p (by
      rw [hre]
      rcases List.mem_append.mp hp with hp | hp
      · exact List.mem_append_left _ hp
      · exact List.mem_append_right _ (.tail _ hp))) hnd2
    have k3 := k2.keepB K3 (fun b hb => by have := adR ow2 W2.oL olr2.1 b hb; omega)
    have q3 : Keep95 ow2 h2 ow2 h3 := .of K3 (fun b hb => by have := adR ow2 W2.oL olr2.1 b hb; omega)
    have hnew : newKeys keys q' = q' :: (P ++ R).map (·.1) := by rw [hks] at hkn ⊢; rw [newKeys_mid hkn]; simp
    refine wpAny_execs_cons (O5 (s := { s with heap := h3, toks := tk3 }) (rs := P ++ R) (q := q') B F3 X T hdp hun e3 olr2.2.1 olr2.2.2 (by simp only [valsOf, List.length_map, List.length_append]; unfold sizeLine; omega) MT2.key MO2.recent (fun h4 tk4 n4 F4 K4 e4 => ?_))
    have W4 := W3.recent K4 e4 (fun p hp => by
      rcases List.mem_cons.mp hp with rfl | hp
      · exact k3
      · exact W3.keys p hp) (by have := newKeys_nodup (q := q') hkn; rw [hnew] at this; simpa using this)
    have q4 : Keep95 ow2 h3 ow2 h4 := .of K4 (fun b hb => by have := adR ow2 W2.oL olr2.1 b hb; omega)
    have hk4 : ((q', key) :: (P ++ R)).map (·.1) = newKeys keys q' := by rw [hnew]; rfl
    refine wpAny_execs_cons (last_loop (s := { s with heap := h4, toks := tk4 }) B F4 X T hdp hun W4 MO2 hk4 r2 (by simp only [List.length_cons, List.length_append]; omega) (fun h5 tk5 m5 ow5 F5 MO5 W5 q5 => ?_))
    exact wpAny_execs_nil (ret _ _ _ _ _ _ F5 MO5 W5 (q1.trans (q2.trans (q3.trans (q4.trans q5)))) (by rw [hk4]; exact r2) (by have := congrArg List.length hre; simp at this; simp only [List.length_cons, List.length_append]; omega))
  · have hno : q ∉ rec.map (·.1) := by rw [hkeys]; exact hin
    have hKL : KeysL prog w s.heap rec := fun p hp => (W.keys p hp).1
    refine wpAny_execs_cons (O2m B F X T hdp hun elr olr.2.1 olr.2.2 hKL hkx.1 hno m_key MO.recent (fun h1 tk1 t1 F1 K1 => ?_))
    have W1 := W.keep K1 (fun b hb => by rw [adL b hb]; decide)
    have k1 := hkx.keepB K1 (fun b hb => by rw [adL b hb]; decide)
    have q1 : Keep95 ow s.heap ow h1 := .of K1 (fun b hb => by rw [adL b hb]; decide)
    have hfar : ∀ j : Nat, j < 6 → (q ∈ keys.take (j + 1) ↔ (99 : Int) < (j : Int) + 1) := fun j hj => ⟨fun h => absurd (List.mem_of_mem_take h) hin, fun h => by omega⟩
    refine wpAny_execs_cons (inner_loop (s := { s with heap := h1, toks := tk1 }) B F1 X T hdp hun hBase W1 ⟨MO.caches, MO.held, MO.teller, MO.recent, MO.cells⟩ ⟨m_turn, m_key, rfl⟩ k1 hkeys hrel hfar (by omega) (by omega) htu htu2 hcv hcl (fun h2 tk2 m2 ow2 g2 F2 MO2 MT2 W2 k2 q2 r2 => ?_))
    obtain ⟨nlr2, elr2⟩ := W2.lr
    have olr2 := W2.ownr
    have hKL2 : KeysL prog w h2 rec := fun p hp => (W2.keys p hp).1
    refine wpAny_execs_cons (O4m (s := { s with heap := h2, toks := tk2 }) B F2 X T hdp hun elr2 olr2.2.1 olr2.2.2 hKL2 k2.1 hno MT2.key MO2.recent (fun tk3 => ?_))
    have hnew : newKeys keys q = q :: rec.map (·.1) := by rw [newKeys_new hin, hkeys]
    refine wpAny_execs_cons (O5 (s := { s with heap := h2, toks := tk3 }) (rs := rec) (q := q) B F2 X T hdp hun elr2 olr2.2.1 olr2.2.2 (by simp only [valsOf, List.length_map]; unfold sizeLine; omega) MT2.key MO2.recent (fun h4 tk4 n4 F4 K4 e4 => ?_))
    have W4 := W2.recent K4 e4 (fun p hp => by
      rcases List.mem_cons.mp hp with rfl | hp
      · exact k2
      · exact W2.keys p hp) (by have := newKeys_nodup (q := q) hkn; rw [hnew] at this; simpa using this)
    have q4 : Keep95 ow2 h2 ow2 h4 := .of K4 (fun b hb => by have := adR ow2 W2.oL olr2.1 b hb; omega)
    have hk4 : ((q, key) :: rec).map (·.1) = newKeys keys q := by rw [hnew]; rfl
    refine wpAny_execs_cons (last_loop (s := { s with heap := h4, toks := tk4 }) B F4 X T hdp hun W4 MO2 hk4 r2 (by simp only [List.length_cons]; omega) (fun h5 tk5 m5 ow5 F5 MO5 W5 q5 => ?_))
    exact wpAny_execs_nil (ret _ _ _ _ _ _ F5 MO5 W5 (q1.trans (q2.trans (q4.trans q5))) (by rw [hk4]; exact r2) (by simp))
theorem outer_turn {b : Nat} {v : Int} {tv : Tok} (hBase : h₀ = base) (W : LawSt prog w s.heap ow h₀ L cg S g rec) (MO : MOk m S) (m_turn : m (Str.ofString "turn") = some (.int turn tt))
    (hrel : ∀ j, j < 6 → RelK (rec.map (·.1)) b j (g j)) (hrl : rec.length ≤ 98) (hb : b ≤ 98)
    (htu : 0 ≤ turn) (htu2 : turn < 24) (hcv : S.cv[turn.toNat]? = some (.int v tv)) (hcl : cl.lookup (Str.ofString "gone") = some cg)
    (ret : ∀ h' tk' m' ow' g' rec', Fr h₀ L h' m' → MOk m' S → LawSt prog w h' ow' h₀ L cg S g' rec' → Keep95 ow s.heap ow' h' → (∀ j, j < 6 → RelK (rec'.map (·.1)) (b + 1) j (g' j)) → rec'.length ≤ rec.length + 1 → Q .next { s with heap := h', toks := tk' }) :
    wpAny (model prog w) (ktrTop dp un gd cn lawScope L a ccd cl outer) (execs turnB (envX cn lawScope L a ccd cl)) Q E s := by
  obtain ⟨nlv, elv⟩ := W.lv
  have olv := W.own98 S.lv (by simp)
  rw [turnB_eq]
  refine wpAny_execs_cons (O1 B F X T hdp hun elv olv.2.1 olv.2.2 htu htu2 hcv MO.cells m_turn (fun h1 tk1 q key F1 K1 k1 f1 => ?_))
  have he : ∀ b o, s.heap.get? b = some o → norm s.heap ow L b = ow b := norm_live W.oL
  have W1 : LawSt prog w h1 (norm s.heap ow L) h₀ L cg S g rec := W.norm.keep K1 (fun b hb => by rw [List.mem_singleton.mp hb, norm_L]; decide)
  have k1' : IsKeyW prog w h1 (norm s.heap ow L) q key := ⟨k1, fun b e => norm_dead b (f1 b e).2.1 (f1 b e).1⟩
  have q1 : Keep95 ow s.heap (norm s.heap ow L) h1 := fun b o e e95 => ⟨K1 b o e (fun hm => by rw [List.mem_singleton.mp hm, W.oL] at e95; cases e95), (he b o e).trans e95⟩
  exact turn_tail (s := { s with heap := h1, toks := tk1 }) B F1 X T hdp hun hBase W1 ⟨MO.caches, MO.held, MO.teller, MO.recent, MO.cells⟩ m_turn rfl k1' rfl hrel hrl hb htu htu2 hcv hcl
    (fun h' tk' m' ow' g' rec' F' MO' W' q' r' l' => ret h' tk' m' ow' g' rec' F' MO' W' (q1.trans q') r' l')
end
end Mine
end
section
theorem Mine.off_LawP5 : True := by w_top off; exact True.intro
set_option maxRecDepth 100000
set_option linter.unusedVariables false
set_option linter.unusedSectionVars false
set_option maxHeartbeats 1000000
namespace Mine
open PySem PySem.W PySem.Spec PySem.Calls PyProof.Rows
theorem fillP5 : (PySem.Challenge.rw_bb0035_01 = PySem.Challenge.rw_bb0035_01) ∧ (hd.heap_39 = hd.heap_39) := by k_fill; exact ⟨rfl, rfl⟩
local macro_rules | `(tactic| k_room) => `(tactic| ktr_room)
local macro_rules | `(tactic| k_units) => `(tactic| ktr_units)
local macro_rules | `(tactic| k_mem) => `(tactic| with_reducible assumption)
local macro_rules | `(tactic| walk_at "eval Name") => `(tactic| (k_here; k_dflt (refine' nameX_L ?F ?v ?_ ?a ?b; (case F => k_asm); (case a => rfl); (case b => rfl); (case v => first | with_reducible assumption | rfl | assumption); k_whole)))
local macro_rules | `(tactic| walk_at "subscriptTail") => `(tactic| (k_here; (with_reducible show wpAny _ _ (subscriptTail _ _ (Value.ref _) (Value.int _ _)) _ _ _); k_dflt (refine' item_mem ?F ?l ?a ?b ?c ?_ ?d; (case F => k_asm); (case l => k_mem); (case a => k_asm); (case b => k_asm); (case c => k_asm); (case d => with_unfolding_all rfl); k_whole)))
local macro_rules | `(tactic| walk_at "eval Name") => `(tactic| (k_here; k_dflt (refine' nameX_C ?N ?c ?m ?d ?_ ?a ?b; (case a => rfl); (case b => rfl); (case N => k_asm); (case c => with_reducible assumption); (case m => k_mem); (case d => with_reducible assumption); k_whole)))
local macro_rules | `(tactic| walk_at "call builtin:len") => `(tactic| (k_here; (with_reducible show wpAny _ _ (call (Value.builtin "len") [Value.ref _]) _ _ _); k_dflt (refine' len_mem ?N ?l ?f ?_; (case N => k_asm); (case l => k_mem); (case f => omega); k_whole); intro t8 tk8))
local macro_rules | `(tactic| walk_at "pyIter ref") => `(tactic| (k_here; refine Hold.intro ?_))
section
variable {prog : Program} {w : World} {p : Program} {loose : List Str} {mean : ExcName → Option Value} {mg mb : Str → Option Value}
  {dp un : Nat} {gd : Option (List Code)} {cn : Str} {a : Addr} {ccd : Value} {cl : List (Str × Addr)} {outer : List Env} {A₀ : Around} {base h₀ : Heap} {L : Addr} {m : Str → Option Value} {s : Shared} {Q : Flow → Shared → Prop} {E : Value → Shared → Prop}
  {ow : Addr → Nat} {k : Nat} {M : Int} {gk c dc d : Addr} {recs : List Rec} {q : Key} {key : Value} {tk tf ts tt : Tok} {far size turn : Int} {lc : Addr} {cs : Array Value} {nc : Nat}
variable (B : Below A₀ base outer h₀) (F : Fr h₀ L s.heap m) (X : (hd.heap_39 w.params).In h₀) (T : Top p loose mean mg mb h₀) (hdp : dp + 100 < recursionLimit) (hun : un + 1000 < cLine)
include B F X T hdp hun

theorem P5 {st : Stmt} (ret : ∀ h' tk' lr, Fr h₀ L h' (fun y => if y = Str.ofString "recent" then some (.ref lr) else m y) → Keep s.heap h' [L] → h'.get? lr = some (listOf #[] 0) → s.heap.get? lr = none → lr ≠ L → h₀.get? lr = none → Q .next { s with heap := h', toks := tk' }) (hst : st = nth lawB 5 := by rfl) :
    wpAny (model prog w) (ktrTop dp un gd cn lawScope L a ccd cl outer) (exec st (envX cn lawScope L a ccd cl)) Q E s := by
  subst hst
  conv =>
    arg 3
    arg 1
    whnf
  have N := alive_news (h₀ := h₀) (L := L) (h := s.heap) []
  have S0 : h₀.StaysIn s.heap := F.keep
  k_steps
  (rename Fr h₀ L _ _ => F8); (rename News h₀ L _ _ => N8); (rename ∀ p ∈ alive h₀ L s.heap [], p.1 < _ => l8)
  have z := N8 _ (.head _)
  exact ret _ _ _ F8 (keep_alive S0 F8 N8 fun _ hp => .tail _ hp) z.1 (newIn_alive z.2.2 z.2.1 l8 (by simp)) z.2.1 z.2.2
theorem P7 {st : Stmt} (ret : ∀ tk', Q (.ret (.bool true)) { s with toks := tk' }) (hst : st = nth lawB 7 := by rfl) :
    wpAny (model prog w) (ktrTop dp un gd cn lawScope L a ccd cl outer) (exec st (envX cn lawScope L a ccd cl)) Q E s := by
  subst hst
  conv =>
    arg 3
    arg 1
    whnf
  k_steps
  exact ret _
/-- for turn in range(len(cells)): its head -/
theorem P6h {lv : Addr} {cv : Array Value} {nv : Nat} {px : Pos} {body : List Stmt} {pos p1 p2 p3 p4 p5 : Pos} (hlv : s.heap.get? lv = some (listOf cv nv)) (nlv : lv ≠ L) (zlv : h₀.get? lv = none) (hsz : cv.size ≤ 24) (m_cells : m (Str.ofString "cells") = some (.ref lv))
    (hh : ∀ h' tk' r t u v, Fr h₀ L h' m → Keep s.heap h' [] → IsRange h' r 0 (cv.size : Int) 1 t u v →
      wpAny (model prog w) (ktrTop dp un gd cn lawScope L a ccd cl outer) (pyIter (.ref r)) (fun it s₂ => codeAny (model prog w) (ktrTop dp un gd cn lawScope L a ccd cl outer) (.forLoop (.Name (Str.ofString "turn") px) it body [] (envX cn lawScope L a ccd cl)) (fun r s' => match r with | .ok f => Q f s' | .error e => cameBackBy (model prog w) (ktrTop dp un gd cn lawScope L a ccd cl outer) (envX cn lawScope L a ccd cl) E e s') s₂) E { s with heap := h', toks := tk' }) :
    wpAny (model prog w) (ktrTop dp un gd cn lawScope L a ccd cl outer) (exec (.For (.Name (Str.ofString "turn") px) (.Call (.Name (Str.ofString "range") p1) [.Call (.Name (Str.ofString "len") p2) [.Name (Str.ofString "cells") p3] [] p4] [] p5) body [] pos) (envX cn lawScope L a ccd cl)) Q E s := by
  have N := alive_news (h₀ := h₀) (L := L) (h := s.heap) []
  have m1 := in_alive (ads := []) hlv nlv zlv (by simp)
  have S0 : h₀.StaysIn s.heap := F.keep
  refine wpAny_For ?_
  k_steps
  (rename Fr h₀ L _ _ => F8); (rename IsRange _ _ _ _ _ _ _ _ => R8); (rename ∀ b o, Heap.get? _ b = some o → Heap.get? _ b = some o => K8)
  unfold held
  exact hh _ _ _ _ _ _ F8 (fun b o e _ => K8 b o e) R8
end
end Mine
end
section
set_option maxRecDepth 100000
set_option linter.unusedVariables false
set_option linter.unusedSectionVars false
set_option maxHeartbeats 2000000
namespace Mine
open PySem PySem.W PySem.Spec PySem.Calls PyProof.Rows
theorem small24 : ∀ n : Nat, n ≤ 24 → Builtin.Range.small 0 n 1 = true ∧ Builtin.Range.rangeSize 0 n 1 = (n : Int) := by decide +kernel
section
variable {prog : Program} {w : World} {p : Program} {loose : List Str} {mean : ExcName → Option Value} {mg mb : Str → Option Value}
  {dp un : Nat} {gd : Option (List Code)} {cn : Str} {a : Addr} {ccd : Value} {cl : List (Str × Addr)} {outer : List Env} {A₀ : Around} {base h₀ : Heap} {L : Addr} {m : Str → Option Value} {s : Shared} {Q : Flow → Shared → Prop} {E : Value → Shared → Prop}
  {ow : Addr → Nat} {k : Nat} {q : Key} {key : Value} {tk tf ts tt : Tok} {far size turn : Int} {cg : Addr} {S : St} {g : Nat → Ix} {rec : KeyL}
variable (B : Below A₀ base outer h₀) (F : Fr h₀ L s.heap m) (X : (hd.heap_39 w.params).In h₀) (T : Top p loose mean mg mb h₀) (hdp : dp + 100 < recursionLimit) (hun : un + 1000 < cLine)
include B F X T hdp hun

theorem law_loop {st : Stmt} (hBase : h₀ = base) (W : LawSt prog w s.heap ow h₀ L cg S g []) (MO : MOk m S) (hrel : ∀ j, j < 6 → RelK [] 0 j (g j)) (hsz : S.cv.size ≤ 24) (hints : ∀ i, i < S.cv.size → ∃ v t, S.cv[i]? = some (.int v t)) (hcl : cl.lookup (Str.ofString "gone") = some cg)
    (ret : ∀ h' tk' m' ow' g' rec', Fr h₀ L h' m' → LawSt prog w h' ow' h₀ L cg S g' rec' → Keep95 ow s.heap ow' h' → Q .next { s with heap := h', toks := tk' }) (hst : st = nth lawB 6 := by rfl) :
    wpAny (model prog w) (ktrTop dp un gd cn lawScope L a ccd cl outer) (exec st (envX cn lawScope L a ccd cl)) Q E s := by
  subst hst
  obtain ⟨nlv, elv⟩ := W.lv
  have olv := W.own98 S.lv (by simp)
  conv =>
    arg 3
    arg 1
    whnf
  refine P6h B F X T hdp hun elv olv.2.1 olv.2.2 hsz MO.cells (fun h1 tk1 r t u v' F1 K1 R1 => ?_)
  have W1 := W.keep K1 nofun
  have q1 : Keep95 ow s.heap ow h1 := .of K1 nofun
  have hLI : L ≠ h1.objs.size := Nat.ne_of_lt F1.ns.lt
  have dead : ∀ b o, h1.get? b = some o → b ≠ h1.objs.size := fun b o e => Nat.ne_of_lt (Heap.lt_size e)
  obtain ⟨sm1, sm2⟩ := small24 S.cv.size hsz
  refine range_heap (s := { s with heap := h1, toks := tk1 }) (n := S.cv.size) rfl R1 sm1 sm2 rfl rfl F1
    (fun i m₁ h => ∃ ow' g' rec', LawSt prog w h ow' h₀ L cg S g' rec' ∧ MOk m₁ S ∧ Keep95 ow h1 ow' h ∧ ow' h1.objs.size = 95 ∧ (∀ j, j < 6 → RelK (rec'.map (·.1)) i j (g' j)) ∧ rec'.length ≤ i)
    (fun o => ?_) ?_ ?_ ?_
  · have he : ∀ b o, h1.get? b = some o → (fun b => if b = h1.objs.size then 95 else ow b) b = ow b := fun b o e => if_neg (dead b o e)
    have K : Keep h1 (h1.push o) [] := fun b o e _ => Heap.get?_push_of_some _ e
    exact ⟨fun b => if b = h1.objs.size then 95 else ow b, g, [], (W1.ext he (by rw [if_neg hLI]; exact W.oL)).keep K nofun, MO, fun b o' e q => ⟨Heap.get?_push_of_some _ e, (he b o' e).trans q⟩, if_pos rfl, hrel, Nat.le_refl _⟩
  · rintro i m₁ h h' ⟨ow', g', rec', W', MO', q', hI, r1, r2⟩ K
    have ad : ∀ b ∈ [L, h1.objs.size], ow' b = 99 ∨ ow' b = 95 := by
      simp only [List.forall_mem_cons]
      exact ⟨.inl W'.oL, .inr hI, nofun⟩
    refine ⟨ow', g', rec', W'.keep K (fun b hb => by have := ad b hb; omega), MO', fun b o e q => ?_, hI, r1, r2⟩
    have z := q' b o e q
    refine ⟨K b o z.1 (by
      simp only [List.mem_cons, List.not_mem_nil, or_false, not_or]
      exact ⟨fun e' => (by rw [e', W.oL] at q; cases q), dead b o e⟩), z.2⟩
  · rintro i m₁ h tk t' o hi ⟨ow', g', rec', W', MO', q', hI, r1, r2⟩ ho F'
    obtain ⟨v, tv, hv⟩ := hints i hi
    show wpAny _ _ (execs turnB _) _ _ _
    refine outer_turn (s := { s with heap := h, toks := tk }) (turn := (i : Int)) (b := i) (v := v) (tv := tv) B F' X T hdp hun hBase W' ⟨MO'.caches, MO'.held, MO'.teller, MO'.recent, MO'.cells⟩ rfl r1 (by omega) (by omega) (by omega) (by omega) hv hcl
      (fun h' tk' m' ow'' g'' rec'' F'' MO'' W'' q'' r'' l'' => ⟨rfl, h', tk', m', rfl, F'', ⟨ow'', g'', rec'', W'', MO'', q'.trans q'', (q'' _ _ ho hI).2, r'', by omega⟩, (q'' _ _ ho hI).1⟩)
  · rintro m' h tk F' ⟨ow', g', rec', W', MO', q', hI, r1, r2⟩
    exact ret h tk m' ow' g' rec' F' W' (q1.trans q')
end
end Mine
end
section
theorem Mine.off_LawP1 : True := by w_top off; exact True.intro
set_option maxRecDepth 100000
set_option linter.unusedVariables false
set_option linter.unusedSectionVars false
set_option maxHeartbeats 1000000
namespace Mine
open PySem PySem.W PySem.Spec PySem.Calls PyProof.Rows
theorem fillP1 : (PySem.Challenge.rw_bb0035_01 = PySem.Challenge.rw_bb0035_01) ∧ (hd.heap_39 = hd.heap_39) := by k_fill; exact ⟨rfl, rfl⟩
local macro_rules | `(tactic| k_room) => `(tactic| ktr_room)
local macro_rules | `(tactic| k_units) => `(tactic| ktr_units)
local macro_rules | `(tactic| k_mem) => `(tactic| with_reducible assumption)
local macro_rules | `(tactic| walk_at "eval Name") => `(tactic| (k_here; k_dflt (refine' nameX_L ?F ?v ?_ ?a ?b; (case F => k_asm); (case a => rfl); (case b => rfl); (case v => first | with_reducible assumption | rfl | assumption); k_whole)))
local macro_rules | `(tactic| walk_at "subscriptTail") => `(tactic| (k_here; (with_reducible show wpAny _ _ (subscriptTail _ _ (Value.ref _) (Value.int _ _)) _ _ _); k_dflt (refine' item_mem ?F ?l ?a ?b ?c ?_ ?d; (case F => k_asm); (case l => k_mem); (case a => k_asm); (case b => k_asm); (case c => k_asm); (case d => with_unfolding_all rfl); k_whole)))
local macro_rules | `(tactic| walk_at "eval Name") => `(tactic| (k_here; k_dflt (refine' nameX_C ?N ?c ?m ?d ?_ ?a ?b; (case a => rfl); (case b => rfl); (case N => k_asm); (case c => with_reducible assumption); (case m => k_mem); (case d => with_reducible assumption); k_whole)))
local macro_rules | `(tactic| k_mem) => `(tactic| first | with_reducible assumption | exact List.Mem.head _ | (refine' List.mem_cons_of_mem _ ?_; k_mem))
section
variable {prog : Program} {w : World} {p : Program} {loose : List Str} {mean : ExcName → Option Value} {mg mb : Str → Option Value}
  {dp un : Nat} {gd : Option (List Code)} {cn : Str} {a : Addr} {ccd : Value} {cl : List (Str × Addr)} {outer : List Env} {A₀ : Around} {base h₀ : Heap} {L : Addr} {m : Str → Option Value} {s : Shared} {Q : Flow → Shared → Prop} {E : Value → Shared → Prop}
  {ow : Addr → Nat} {k : Nat} {M : Int} {gk c dc d : Addr} {recs : List Rec} {q : Key} {key : Value} {tk tf ts tt : Tok} {far size turn : Int} {lc : Addr} {cs : Array Value} {nc : Nat}
variable (B : Below A₀ base outer h₀) (F : Fr h₀ L s.heap m) (X : (hd.heap_39 w.params).In h₀) (T : Top p loose mean mg mb h₀) (hdp : dp + 100 < recursionLimit) (hun : un + 1000 < cLine)
include B F X T hdp hun

theorem P0 {st : Stmt} (ret : ∀ h' tk' l rv n, Fr h₀ L h' (fun y => if y = Str.ofString "rest" then some (.ref l) else m y) → Keep s.heap h' [L] → h'.get? l = some (listOf (List.toArray rv) n) → IntsAre rv [0, 1, 2, 0, 3, 1, 12, 4, 0, 5, 10, 2] → s.heap.get? l = none → l ≠ L → h₀.get? l = none → Q .next { s with heap := h', toks := tk' }) (hst : st = nth lawB 0 := by rfl) :
    wpAny (model prog w) (ktrTop dp un gd cn lawScope L a ccd cl outer) (exec st (envX cn lawScope L a ccd cl)) Q E s := by
  subst hst
  conv =>
    arg 3
    arg 1
    whnf
  have N := alive_news (h₀ := h₀) (L := L) (h := s.heap) []
  have S0 : h₀.StaysIn s.heap := F.keep
  k_steps
  (rename Fr h₀ L _ _ => F8); (rename News h₀ L _ _ => N8); (rename ∀ p ∈ alive h₀ L s.heap [], p.1 < _ => l8)
  have z := N8 _ (.head _)
  refine ret _ _ _ _ _ F8 (keep_alive S0 F8 N8 fun _ hp => .tail _ hp) z.1 ?_ (newIn_alive z.2.2 z.2.1 l8 (by simp)) z.2.1 z.2.2
  repeat' constructor
theorem P1 {st : Stmt} {l lr : Addr} {vs : List Value} {ns : List Int} {rv : List Value} {rs : List Int} {nr : Nat} (hl : h₀.IsList l vs.toArray) (hi : IntsAre vs ns) (hn : ns.length ≤ 63) (hir : IntsAre rv rs) (hrs : rs.length = 12) (hlr : s.heap.get? lr = some (listOf rv.toArray nr)) (nlr : lr ≠ L) (zlr : h₀.get? lr = none)
    (m_script : m (Str.ofString "script") = some (.ref l)) (m_rest : m (Str.ofString "rest") = some (.ref lr))
    (ret : ∀ h' tk' lv ws zs n, Fr h₀ L h' (fun y => if y = Str.ofString "cells" then some (.ref lv) else m y) → Keep s.heap h' [L] → h'.get? lv = some (listOf (List.toArray ws) n) → IntsAre ws zs → zs.length ≤ 24 → s.heap.get? lv = none → lv ≠ L → h₀.get? lv = none → Q .next { s with heap := h', toks := tk' }) (hst : st = nth lawB 1 := by rfl) :
    wpAny (model prog w) (ktrTop dp un gd cn lawScope L a ccd cl outer) (exec st (envX cn lawScope L a ccd cl)) Q E s := by
  subst hst
  conv =>
    arg 3
    arg 1
    whnf
  have N : News h₀ L s.heap ((lr, listOf rv.toArray nr) :: alive h₀ L s.heap [lr]) := news_cons ⟨hlr, nlr, zlr⟩ (alive_news _)
  have S0 : h₀.StaysIn s.heap := F.keep
  k_steps
  · (rename Fr h₀ L _ _ => F8); (rename News h₀ L _ _ => N8); (rename (_ < _ ∧ _ < _ ∧ _ < _ ∧ AllLt _ _) => l8); (rename IntsAre _ (List.take 24 (List.take 24 ns ++ rs)) => i8); (rename _ = min 24 (List.take 24 ns ++ rs).length => c8)
    have z := N8 _ (.head _)
    refine ret _ _ _ _ _ _ F8 (Keep.back (keep_alive S0 F8 N8 fun _ hp => .tail _ (.tail _ (.tail _ (.tail _ hp)))) hlr (N8 _ (.tail _ (.tail _ (.tail _ (.head _))))).1) z.1 i8 (by rw [c8]; exact Nat.min_le_left _ _) (newIn_alive z.2.2 z.2.1 (ktn_ltOf l8.2.2.2) (by simpa using Nat.ne_of_gt l8.2.2.1)) z.2.1 z.2.2
  · (rename Fr h₀ L _ _ => F8); (rename News h₀ L _ _ => N8); (rename (_ < _ ∧ AllLt _ _) => l8); (rename IntsAre _ (List.take 24 ns) => i8); (rename (List.take 24 ns).length = _ => c8)
    have z := N8 _ (.head _)
    refine ret _ _ _ _ _ _ F8 (Keep.back (keep_alive S0 F8 N8 fun _ hp => .tail _ (.tail _ hp)) hlr (N8 _ (.tail _ (.head _))).1) z.1 i8 (by rw [c8]; exact Nat.min_le_left _ _) (newIn_alive z.2.2 z.2.1 (ktn_ltOf l8.2) (by simpa using Nat.ne_of_gt l8.1)) z.2.1 z.2.2
end
end Mine
end
section
theorem Mine.off_LawP2 : True := by w_top off; exact True.intro
set_option maxRecDepth 100000
set_option linter.unusedVariables false
set_option linter.unusedSectionVars false
set_option maxHeartbeats 1000000
namespace Mine
open PySem PySem.W PySem.Spec PySem.Calls PyProof.Rows
theorem fillP2 : (PySem.Challenge.rw_bb0035_01 = PySem.Challenge.rw_bb0035_01) ∧ (hd.heap_39 = hd.heap_39) := by k_fill; exact ⟨rfl, rfl⟩
local macro_rules | `(tactic| k_room) => `(tactic| ktr_room)
local macro_rules | `(tactic| k_units) => `(tactic| ktr_units)
local macro_rules | `(tactic| k_mem) => `(tactic| with_reducible assumption)
local macro_rules | `(tactic| walk_at "eval Name") => `(tactic| (k_here; k_dflt (refine' nameX_L ?F ?v ?_ ?a ?b; (case F => k_asm); (case a => rfl); (case b => rfl); (case v => first | with_reducible assumption | rfl | assumption); k_whole)))
local macro_rules | `(tactic| walk_at "subscriptTail") => `(tactic| (k_here; (with_reducible show wpAny _ _ (subscriptTail _ _ (Value.ref _) (Value.int _ _)) _ _ _); k_dflt (refine' item_mem ?F ?l ?a ?b ?c ?_ ?d; (case F => k_asm); (case l => k_mem); (case a => k_asm); (case b => k_asm); (case c => k_asm); (case d => with_unfolding_all rfl); k_whole)))
local macro_rules | `(tactic| walk_at "eval Name") => `(tactic| (k_here; k_dflt (refine' nameX_C ?N ?c ?m ?d ?_ ?a ?b; (case a => rfl); (case b => rfl); (case N => k_asm); (case c => with_reducible assumption); (case m => k_mem); (case d => with_reducible assumption); k_whole)))
structure Trip where
  c : Addr
  dc : Addr
  d : Addr
/-- a cache just made -/
def MadeAt (w : World) (bas news : List (Addr × Obj)) (ys : List Value) (k : Nat) (t : Trip) : Prop :=
  t.dc < t.c ∧ t.c < t.d ∧ (t.d == sysModules) = false ∧ ys[k]? = some (.ref t.c) ∧ (t.d, dictK w [] 0) ∈ news ∧ (t.c, instObj 189 t.dc) ∈ news ∧ (∃ t1 t2 t3 t4 t5 tm ta, (t.dc, cacheD w.params t1 t2 t3 t4 t5 (.ref t.d) .none .none (.int (1 + (k : Int)) tm) (.int (1 + (k : Int)) ta)) ∈ news) ∧ ∀ p ∈ bas, p.1 < t.dc
def MadeAll (w : World) (bas news : List (Addr × Obj)) (ys : List Value) (i : Nat) (T : Nat → Trip) : Prop :=
  (∀ k, k < i → MadeAt w bas news ys k (T k)) ∧ (∀ j k, j < k → k < i → (T j).d < (T k).dc) ∧ ys.length = i ∧ ∀ p ∈ bas, p ∈ news
local macro_rules | `(tactic| k_mem) => `(tactic| first | with_reducible assumption | exact List.Mem.head _ | (refine' List.mem_cons_of_mem _ ?_; k_mem))
local macro_rules | `(tactic| walk_at "call ref") => `(tactic| (k_here; (with_reducible show wpAny _ _ (call (Value.ref 189) _) _ _ _); refine Hold.intro ?_))
abbrev genOf : Stmt → PySem.Expr
  | .Assign _ (.ListComp e _ _ _) _ => e
  | _ => .Constant (.bool true) 0 ⟨0, 0, 0, 0⟩
abbrev gscOf : Stmt → Scope
  | .Assign _ (.ListComp _ _ sc _) _ => sc
  | _ => { kind := .module, names := [], isGenerator := false, isCoroutine := false }
section
variable {prog : Program} {w : World} {p : Program} {loose : List Str} {mean : ExcName → Option Value} {mg mb : Str → Option Value}
  {dp un : Nat} {gd : Option (List Code)} {cn : Str} {a : Addr} {ccd : Value} {cl : List (Str × Addr)} {outer : List Env} {A₀ : Around} {base h₀ : Heap} {L : Addr} {m : Str → Option Value} {s : Shared} {Q : Flow → Shared → Prop} {E : Value → Shared → Prop}
  {ow : Addr → Nat} {k : Nat} {M : Int} {gk c dc d : Addr} {recs : List Rec} {q : Key} {key : Value} {tk tf ts tt : Tok} {far size turn : Int} {lc : Addr} {cs : Array Value} {nc : Nat}
variable (B : Below A₀ base outer h₀) (F : Fr h₀ L s.heap m) (X : (hd.heap_39 w.params).In h₀) (T : Top p loose mean mg mb h₀) (hdp : dp + 100 < recursionLimit) (hun : un + 1000 < cLine)
include B F X T hdp hun

omit F in
theorem caches_rest {s₁ : Shared} {bas : List (Addr × Obj)} {Fin : List Value → List (Addr × Obj) → Prop} (hFin : ∀ ys news G, MadeAll w bas news ys 6 G → Fin ys news) :
    ∀ k i ys news G, k + i = 6 → MadeAll w bas news ys i G → LCg.CompRest prog w (ktrTop dp un gd cn lawScope L a ccd cl outer) h₀ L m (envX cn lawScope L a ccd cl) (genOf (nth lawB 2)) (Str.ofString "n") (gscOf (nth lawB 2)) [] s₁ (fun _ => True) (fun i v => ∃ t, v = .int (1 + (i : Int)) t) Fin k i ys news := by
  intro k
  induction k with
  | zero =>
    intro i ys news G hi hM
    obtain rfl : i = 6 := by omega
    exact LCg.CompRest.zero (hFin _ _ _ hM)
  | succ k ih =>
    intro i ys news G hi hM
    refine LCg.CompRest.succ fun v I oI C oC D m₂ h tk E' hP hC hn F N off hne => ?_
    obtain ⟨t, rfl⟩ := hP
    conv =>
      arg 3
      arg 1
      whnf
    k_steps
    unfold held
    refine init_call B F X T rfl (by first | omega | (dsimp only [ktrTop]; omega)) (by first | omega | (dsimp only [ktrTop]; omega)) (by omega) N (fun h9 tk9 c9 dc9 d9 tc1 tc2 tc3 tc4 tc5 ta9 F9 N9 l1 l2 l3 lo => ?_)
    k_unfold
    dsimp only
    have lI := l1 (I, oI) (.head _)
    have lC := l1 (C, oC) (.tail _ (.head _))
    have lD := l1 (D, LCg.lst ys) (.tail _ (.tail _ (.head _)))
    have ln : ∀ p ∈ news, p.1 < dc9 := fun p hp => l1 p (.tail _ (.tail _ (.tail _ hp)))
    dsimp only at lI lC lD
    have up : ∀ {x y z : Nat}, x < y → y < z → z ≠ x := fun h1 h2 => Nat.ne_of_gt (Nat.lt_trans h1 h2)
    have up3 : ∀ {x y z u : Nat}, x < y → y < z → z < u → u ≠ x := fun h1 h2 h3 => Nat.ne_of_gt (Nat.lt_trans (Nat.lt_trans h1 h2) h3)
    refine LCg.CompEnd.intro F9 N9 ((d9, dictK w [] 0) :: (c9, instObj 189 dc9) :: (dc9, cacheD w.params tc1 tc2 tc3 tc4 tc5 (.ref d9) .none .none (.int (1 + (i : Int)) t) (.int (1 + (i : Int)) ta9)) :: news) (fun p hp => ?_) ⟨⟨up3 lI l2 l3, up3 lC l2 l3, up3 lD l2 l3⟩, ⟨up lI l2, up lC l2, up lD l2⟩, ⟨Nat.ne_of_gt lI, Nat.ne_of_gt lC, Nat.ne_of_gt lD⟩, off⟩ trivial
      (ih (i + 1) _ _ (fun j => if j = i then ⟨c9, dc9, d9⟩ else G j) (by omega) ⟨fun k' hk' => ?_, fun j k' hj hk' => ?_, by simp [hM.2.2.1], fun p hp => .tail _ (.tail _ (.tail _ (hM.2.2.2 p hp)))⟩)
    · simp only [List.mem_cons] at hp ⊢
      rcases hp with h | h | h | h | h | h | h <;> simp [h]
    · dsimp only
      by_cases e : k' = i
      · subst e
        simp only [if_true]
        refine ⟨l2, l3, lo, ?_, .head _, .tail _ (.head _), ⟨_, _, _, _, _, _, _, .tail _ (.tail _ (.head _))⟩, fun p hp => ln p (hM.2.2.2 p hp)⟩
        rw [List.getElem?_append_right (by rw [hM.2.2.1]; exact Nat.le_refl _), hM.2.2.1]
        simp
      · rw [if_neg e]
        obtain ⟨a1, a2, a3, a4, a5, a6, ⟨t1, t2, t3, t4, t5, tm, ta, a7⟩, a8⟩ := hM.1 k' (by omega)
        refine ⟨a1, a2, a3, ?_, .tail _ (.tail _ (.tail _ a5)), .tail _ (.tail _ (.tail _ a6)), ⟨t1, t2, t3, t4, t5, tm, ta, .tail _ (.tail _ (.tail _ a7))⟩, a8⟩
        rw [List.getElem?_append_left (by rw [hM.2.2.1]; omega)]
        exact a4
    · dsimp only
      by_cases e : k' = i
      · subst e
        rw [if_neg (Nat.ne_of_lt hj), if_pos rfl]
        exact ln _ (hM.1 j hj).2.2.2.2.1
      · rw [if_neg (by omega), if_neg e]
        exact hM.2.1 j k' hj (by omega)
theorem P2 {st : Stmt} (ret : ∀ h' tk' D ys news G, Fr h₀ L h' (fun y => if y = Str.ofString "caches" then some (.ref D) else m y) → News h₀ L h' ((D, LCg.lst ys) :: news) → LCg.Off1 D news → MadeAll w (alive h₀ L s.heap []) news ys 6 G → Q .next { s with heap := h', toks := tk' }) (hst : st = nth lawB 2 := by rfl) :
    wpAny (model prog w) (ktrTop dp un gd cn lawScope L a ccd cl outer) (exec st (envX cn lawScope L a ccd cl)) Q E s := by
  subst hst
  conv =>
    arg 3
    arg 1
    whnf
  have N : News h₀ L s.heap (alive h₀ L s.heap []) := alive_news _
  k_dflt (refine LCg.Assign_ListComp_U (F₀ := F) (by rfl) (by with_unfolding_all rfl) (by rfl) (by decide) (by rfl) (by decide) (by rfl) (by rfl) (by rfl) ?_)
  k_dflt lcg_toSrc
  refine caches_rest B X T hdp hun (fun ys news G hM => ?_) 6 0 [] _ (fun _ => ⟨0, 0, 0⟩) rfl ⟨nofun, nofun, rfl, fun p hp => hp⟩
  exact fun D h tk F' N' o1 => ret h tk D ys news G F' N' o1 hM
end
end Mine
end
section
theorem Mine.off_LawP3 : True := by w_top off; exact True.intro
set_option maxRecDepth 100000
set_option linter.unusedVariables false
set_option linter.unusedSectionVars false
set_option maxHeartbeats 1000000
namespace Mine
open PySem PySem.W PySem.Spec PySem.Calls PyProof.Rows
theorem fillP3 : (PySem.Challenge.rw_bb0035_01 = PySem.Challenge.rw_bb0035_01) ∧ (hd.heap_39 = hd.heap_39) := by k_fill; exact ⟨rfl, rfl⟩
local macro_rules | `(tactic| k_room) => `(tactic| ktr_room)
local macro_rules | `(tactic| k_units) => `(tactic| ktr_units)
local macro_rules | `(tactic| k_mem) => `(tactic| with_reducible assumption)
local macro_rules | `(tactic| walk_at "eval Name") => `(tactic| (k_here; k_dflt (refine' nameX_L ?F ?v ?_ ?a ?b; (case F => k_asm); (case a => rfl); (case b => rfl); (case v => first | with_reducible assumption | rfl | assumption); k_whole)))
local macro_rules | `(tactic| walk_at "subscriptTail") => `(tactic| (k_here; (with_reducible show wpAny _ _ (subscriptTail _ _ (Value.ref _) (Value.int _ _)) _ _ _); k_dflt (refine' item_mem ?F ?l ?a ?b ?c ?_ ?d; (case F => k_asm); (case l => k_mem); (case a => k_asm); (case b => k_asm); (case c => k_asm); (case d => with_unfolding_all rfl); k_whole)))
local macro_rules | `(tactic| walk_at "eval Name") => `(tactic| (k_here; k_dflt (refine' nameX_C ?N ?c ?m ?d ?_ ?a ?b; (case a => rfl); (case b => rfl); (case N => k_asm); (case c => with_reducible assumption); (case m => k_mem); (case d => with_reducible assumption); k_whole)))
local macro_rules | `(tactic| k_mem) => `(tactic| first | with_reducible assumption | exact List.Mem.head _ | (refine' List.mem_cons_of_mem _ ?_; k_mem))
local macro_rules | `(tactic| k_ne) => `(tactic| first | (refine neN ?_; (try dsimp only); first | with_reducible assumption | exact Ne.symm (by with_reducible assumption)) | (refine neN ?_; (try dsimp only); omega))
local macro_rules | `(tactic| k_all) => `(tactic| first | with_reducible assumption | exact List.forall_mem_nil _ | (refine' List.forall_mem_cons.mpr ⟨?a, ?b⟩; (case a => k_ne); (case b => k_all)))
local macro_rules | `(tactic| walk_at "eval Dict nil nil") => `(tactic| (k_here; k_dflt (refine' newDict_E ?k1 ?k2 (TopRead.nolimit (by k_asm)) ?_; (case k1 => k_asm); (case k2 => k_asm); k_whole); intro d' h' F' N' l1 lo'; (try k_lt l1); (try k_sweep)))
local macro_rules | `(tactic| walk_at "storeName") => `(tactic| (k_here; k_dflt (refine' storeX_C ?F ?N ?c ?U ?d ?_ ?a ?b; (case a => rfl); (case b => rfl); (case F => k_asm); (case N => k_asm); (case c => with_reducible assumption); (case U => k_updF); (case d => with_reducible assumption); k_whole; intro h' o' F' N' d'; (try dsimp only at N'); (try k_sweep))))
section
variable {prog : Program} {w : World} {p : Program} {loose : List Str} {mean : ExcName → Option Value} {mg mb : Str → Option Value}
  {dp un : Nat} {gd : Option (List Code)} {cn : Str} {a : Addr} {ccd : Value} {cl : List (Str × Addr)} {outer : List Env} {A₀ : Around} {base h₀ : Heap} {L : Addr} {m : Str → Option Value} {s : Shared} {Q : Flow → Shared → Prop} {E : Value → Shared → Prop}
  {ow : Addr → Nat} {k : Nat} {M : Int} {gk c dc d : Addr} {recs : List Rec} {q : Key} {key : Value} {tk tf ts tt : Tok} {far size turn : Int} {lc : Addr} {cs : Array Value} {nc : Nat}
variable (B : Below A₀ base outer h₀) (F : Fr h₀ L s.heap m) (X : (hd.heap_39 w.params).In h₀) (T : Top p loose mean mg mb h₀) (hdp : dp + 100 < recursionLimit) (hun : un + 1000 < cLine)
include B F X T hdp hun

theorem P3 {st : Stmt} {cg : Addr} {oc : Obj} {v₀ : Option Value} (hcl : cl.lookup (Str.ofString "gone") = some cg) (hcg : s.heap.get? cg = some oc) (ncg : cg ≠ L) (zcg : h₀.get? cg = none) (dcg : oc.data = .cell v₀)
    (ret : ∀ h' tk' (D lg lh g0 g1 g2 g3 g4 g5 d0 d1 d2 d3 d4 d5 : Addr) (t : Obj) oc', Fr h₀ L h' (fun y => if y = Str.ofString "held" then some (.ref lh) else m y) →
      News h₀ L h' ((D, t) :: (lh, listOf #[.ref d0, .ref d1, .ref d2, .ref d3, .ref d4, .ref d5] 0) :: (d5, dictOf [] 0) :: (d4, dictOf [] 0) :: (d3, dictOf [] 0) :: (d2, dictOf [] 0) :: (d1, dictOf [] 0) :: (d0, dictOf [] 0) :: (lg, listOf #[.ref g0, .ref g1, .ref g2, .ref g3, .ref g4, .ref g5] 0) :: (g5, listOf #[] 0) :: (g4, listOf #[] 0) :: (g3, listOf #[] 0) :: (g2, listOf #[] 0) :: (g1, listOf #[] 0) :: (g0, listOf #[] 0) :: (cg, oc') :: alive h₀ L s.heap [cg]) → oc'.data = .cell (some (.ref lg)) →
      g0 < g1 ∧ g1 < g2 ∧ g2 < g3 ∧ g3 < g4 ∧ g4 < g5 ∧ g5 < lg ∧ lg < d0 ∧ d0 < d1 ∧ d1 < d2 ∧ d2 < d3 ∧ d3 < d4 ∧ d4 < d5 ∧ d5 < lh → (∀ p ∈ alive h₀ L s.heap [cg], p.1 < g0) → cg < g0 → (d0 == sysModules) = false ∧ (d1 == sysModules) = false ∧ (d2 == sysModules) = false ∧ (d3 == sysModules) = false ∧ (d4 == sysModules) = false ∧ (d5 == sysModules) = false → Q .next { s with heap := h', toks := tk' }) (hst : st = nth lawB 3 := by rfl) :
    wpAny (model prog w) (ktrTop dp un gd cn lawScope L a ccd cl outer) (exec st (envX cn lawScope L a ccd cl)) Q E s := by
  subst hst
  conv =>
    arg 3
    arg 1
    whnf
  have N : News h₀ L s.heap ((cg, oc) :: alive h₀ L s.heap [cg]) := news_cons ⟨hcg, ncg, zcg⟩ (alive_news _)
  have a1 : ∀ p ∈ alive h₀ L s.heap [cg], p.1 ≠ cg := fun p hp e => (mem_alive.mp hp).2.2.2 (by rw [e]; simp)
  have S0 : h₀.StaysIn s.heap := F.keep
  k_steps
  (rename Fr h₀ L _ _ => F8); (rename News h₀ L _ _ => N8); (rename _ = Data.cell (some _) => d8)
  refine ret _ _ _ _ _ _ _ _ _ _ _ _ _ _ _ _ _ _ _ F8 N8 d8 ?_ ?_ ?_ ?_
  · refine ⟨?_, ?_, ?_, ?_, ?_, ?_, ?_, ?_, ?_, ?_, ?_, ?_, ?_⟩ <;> simp_all only
  · (rename (cg < _ ∧ AllLt _ _) => l8)
    exact ktn_ltOf l8.2
  · simp_all only
  · refine ⟨?_, ?_, ?_, ?_, ?_, ?_⟩ <;> assumption
end
end Mine
end
section
set_option maxRecDepth 100000
set_option linter.unusedVariables false
namespace Mine
open PySem PySem.W PySem.Spec PySem.Calls PyProof.Rows
/-! def teller: its code object's own table is told too -/
section
variable {M : Model} {A : Around} {E : Value → Shared → Prop} {s : Shared} {name qual : Str} {params : Arguments} {body : List Stmt} {scope : Scope} {env : Env} {c P : Addr} {ps : Array Value} {pos : Pos} {firstLine : Nat} {mg : Str → Option Value}
  {q : Str × Addr} {r : List (Str × Addr)} {Q : Value → Shared → Prop}
theorem makeTail_tab (hcl : closureFor scope env = pure (q :: r)) (hge0 : env.globals = mainGlobals) (hg : s.heap.Ns mainGlobals mg) (hcode : env.code = .ref c) (C : CodeHd s.heap c P) (hP : s.heap.get? P = some (tabObj ps)) (ht : TriplesOk ps.toList)
    (hnf : codeAmong pos ps.toList = none) (hgP : mainGlobals ≠ P) (hb : s.heap.BuiltinsAt mg P)
    (h : ∀ c' P' ctv doc h' tk, Heap.ExtBut P s.heap h' → s.heap.objs.size ≤ c' → c' < h'.objs.size → s.heap.objs.size ≤ P' → h'.CodeRec (.ref c') qual → CodeHd h' c' P' → h'.get? P' = some (tabObj #[]) → h'.get? P = some (tabObj (ps ++ #[rawInt pos.line, rawInt pos.col, .ref c'])) →
      Q (.ref h'.objs.size) { s with heap := h'.push (fnMade name qual params body scope (q :: r) doc ((mg "__name__").getD .none) c' ctv), toks := tk }) :
    wpAny M A (makeTail name qual params (.stmts body) scope env .none .none none pos firstLine) Q E s := by
  obtain ⟨bm, ob, hbm, hne0, _, hneP, hbo, hcls, hdict, hdata⟩ := hb
  unfold makeTail
  rw [hcl, hge0]
  refine wpAny_bind (wpAny_pure ?_)
  simp only [List.isEmpty_cons, Bool.false_eq_true, if_false]
  refine wpAny_bind (wpAny_newTextTuple ?_)
  refine wpAny_bind (wpAny_functionCodeX hcode ((C.keeps fun b o e => Heap.get?_push_of_some _ e).code (Heap.get?_push_of_some _ hP) ht) ((C.keeps fun b o e => Heap.get?_push_of_some _ e).tab (Heap.get?_push_of_some _ hP)) hnf fun c' h' tk hx hge hlt _ hrec htb hown => ?_)
  obtain ⟨P', hP', ic, it⟩ := hown
  have hg' := (hg.push _).extBut hx hgP
  have hx' : Heap.ExtBut P s.heap h' := fun b o hb' e => hx b o hb' (Heap.get?_push_of_some _ e)
  have hs1 : s.heap.objs.size ≤ c' := Nat.le_trans (by rw [Heap.size_push]; exact Nat.le_succ _) hge
  have hs2 : s.heap.objs.size ≤ P' := Nat.le_trans (by rw [Heap.size_push]; exact Nat.le_succ _) hP'
  refine wpAny_bind (wpAny_builtinsFor hg' hbm hne0 (hx' _ _ hneP hbo) hcls hdict hdata ?_)
  refine wpAny_bind (wpAny_nsGet hg' ?_)
  cases hdoc : docOf body with
  | none => exact wpAny_bind (wpAny_pure (wpAny_newObj_type (h c' P' _ .none h' tk hx' hs1 hlt hs2 hrec (.of ic it) it.2 htb.2) (by size_fits)))
  | some t => exact wpAny_bind (wpAny_mkText (wpAny_newObj_type (h c' P' _ _ h' _ hx' hs1 hlt hs2 hrec (.of ic it) it.2 htb.2) (by size_fits)))
end
section
variable {prog : Program} {w : World} {p : Program} {loose : List Str} {mean : ExcName → Option Value} {mg mb : Str → Option Value}
  {dp un : Nat} {gd : Option (List Code)} {cn : Str} {a : Addr} {ccd : Value} {outer : List Env} {h₀ : Heap} {L cg c P : Addr} {m : Str → Option Value} {s : Shared} {Q : Flow → Shared → Prop} {E : Value → Shared → Prop}
theorem P4 {st : Stmt} (F : Fr h₀ L s.heap m) (T : Top p loose mean mg mb h₀) (C : CodeHd h₀ c P) (hcd : ccd = .ref c) (hP : s.heap.get? P = some (tabObj #[])) (zP : h₀.get? P = none) (nP : P ≠ L)
    (ret : ∀ h' tk' ft ct Pt doc pm ctv ps', Fr h₀ L h' (fun y => if y = Str.ofString "teller" then some (.ref ft) else m y) → Keep s.heap h' [L, P] →
      h'.get? ft = some (fnMade (Str.ofString "teller") (qualnameIn (envX cn lawScope L a ccd [(Str.ofString "gone", cg)]) (Str.ofString "teller") (Str.ofString "teller")) tellP tellB tellScope [(Str.ofString "gone", cg)] doc pm ct ctv) →
      h'.CodeRec (.ref ct) (qualnameIn (envX cn lawScope L a ccd [(Str.ofString "gone", cg)]) (Str.ofString "teller") (Str.ofString "teller")) → CodeHd h' ct Pt → h'.get? Pt = some (tabObj #[]) → h'.get? P = some (tabObj ps') →
      s.heap.objs.size ≤ ft → s.heap.objs.size ≤ ct → s.heap.objs.size ≤ Pt → ct ≠ Pt → ft ≠ ct → ft ≠ Pt → Q .next { s with heap := h', toks := tk' }) (hst : st = nth lawB 4 := by rfl) :
    wpAny (model prog w) (ktrTop dp un gd cn lawScope L a ccd [(Str.ofString "gone", cg)] outer) (exec st (envX cn lawScope L a ccd [(Str.ofString "gone", cg)])) Q E s := by
  subst hst
  have hgs := T.g.keeps F.keep
  obtain ⟨bm, ob, b1, b2, b3, b4, b5, b6⟩ := T.bmain
  have hgP : mainGlobals ≠ P := fun q => by
    obtain ⟨o, es, ep, e, hd, _⟩ := hgs
    rw [q, hP] at e; cases e; cases hd
  have hbP : bm ≠ P := fun q => by
    have e := F.keep _ _ b3
    rw [q, hP] at e; cases e; cases b4
  have hbG : bm ≠ mainGlobals := fun q => by
    obtain ⟨o, es, ep, e, hd, _⟩ := T.g
    rw [q, e] at b3; cases b3; rw [hd] at b6; cases b6
  conv =>
    arg 3
    arg 1
    whnf
  refine nestDef_K rfl rfl rfl ?_
  rw [makeFunction_eq]
  simp only [List.zip_nil_right, List.filterMap_nil, List.isEmpty_nil, if_true, pure_bind]
  refine makeTail_tab (mg := mg) (ps := #[]) (q := (Str.ofString "gone", cg)) (r := []) rfl rfl hgs hcd (C.keeps F.keep) hP (by kn_triples) rfl hgP ⟨bm, ob, b1, b2, hbG, hbP, F.keep _ _ b3, b4, b5, b6⟩
    fun ct Pt ctv doc h' tk hx hge hlt hge2 hrec hch htab hP' => ?_
  have hLs : L < s.heap.objs.size := F.ns.lt
  have old : ∀ b o, h₀.get? b = some o → h'.get? b = some o := fun b o e => hx b o (fun q => by rw [q, zP] at e; cases e) (F.keep b o e)
  have F1 : Fr h₀ L (h'.push (fnMade (Str.ofString "teller") (qualnameIn (envX cn lawScope L a ccd [(Str.ofString "gone", cg)]) (Str.ofString "teller") (Str.ofString "teller")) tellP tellB tellScope [(Str.ofString "gone", cg)] doc ((mg "__name__").getD .none) ct ctv)) m :=
    ⟨(F.ns.extBut hx nP.symm).push _, fun b o e => Heap.get?_push_of_some _ (old b o e), F.above⟩
  have hPtlt := Heap.lt_size htab
  refine wpAny_storeName_local rfl F1.ns (fun h₂ hn₂ hs₂ => ?_) rfl
  have F2 := F1.set hn₂ hs₂
  have up : ∀ b o, b ≠ L → h'.get? b = some o → h₂.get? b = some o := fun b o n e => (hs₂.2 b n).trans (Heap.get?_push_of_some _ e)
  have nL : ∀ b, s.heap.objs.size ≤ b → b ≠ L := fun b hb q => by rw [q] at hb; exact absurd hLs (Nat.not_lt.mpr hb)
  have hctPt : ct ≠ Pt := by obtain ⟨o, vs, file, tf, flags, tg, inF, text, tt, e, r⟩ := hch; exact r.2.2.2.2.2.2.2.2
  have hle : s.heap.objs.size ≤ h'.objs.size := Nat.le_of_lt (Nat.lt_of_le_of_lt hge hlt)
  refine ret h₂ _ h'.objs.size ct Pt doc _ ctv _ F2 (fun b o e n => ?_) ((hs₂.2 _ (nL _ hle)).trans (Heap.get?_push_size _ rfl)) ?_ ?_ (up _ _ (nL _ hge2) htab) (up _ _ nP hP') hle hge hge2 hctPt (Nat.ne_of_gt hlt) (Nat.ne_of_gt hPtlt)
  · simp only [List.mem_cons, List.not_mem_nil, or_false, not_or] at n
    exact up b o n.1 (hx b o n.2 e)
  · obtain ⟨c₂, oc, vs, t, e2, hoc, hd, hv⟩ := hrec
    cases e2
    exact ⟨_, _, _, _, rfl, up _ _ (nL _ hge) hoc, hd, hv⟩
  · obtain ⟨o, vs, file, tf, flags, tg, inF, text, tt, e, r⟩ := hch
    exact ⟨o, vs, file, tf, flags, tg, inF, text, tt, up _ _ (nL _ hge) e, r⟩
end
end Mine
end
section
set_option maxRecDepth 100000
set_option linter.unusedVariables false
set_option linter.unusedSectionVars false
set_option maxHeartbeats 2000000
namespace Mine
open PySem PySem.W PySem.Spec PySem.Calls PyProof.Rows
theorem mono_of_step {f : Nat → Nat} (h : ∀ k, k + 1 < 6 → f k < f (k + 1)) : ∀ j k, j < k → k < 6 → f j < f k := by
  intro j k hj hk
  induction k with
  | zero => exact absurd hj (Nat.not_lt_zero _)
  | succ k ih =>
    rcases Nat.lt_succ_iff_lt_or_eq.mp hj with h1 | rfl
    · exact Nat.lt_trans (ih h1 (Nat.lt_of_succ_lt hk)) (h k hk)
    · exact h j hk
section
variable {prog : Program} {w : World} {p : Program} {loose : List Str} {mean : ExcName → Option Value} {mg mb : Str → Option Value}
  {dp un : Nat} {gd : Option (List Code)} {cn : Str} {a : Addr} {ccd : Value} {cl : List (Str × Addr)} {outer : List Env} {A₀ : Around} {base h₀ : Heap} {L : Addr} {m : Str → Option Value} {s : Shared} {Q : Flow → Shared → Prop} {E : Value → Shared → Prop}
  {ow : Addr → Nat} {k : Nat} {q : Key} {key : Value} {tk tf ts tt : Tok} {far size turn : Int} {cg : Addr} {S : St} {g : Nat → Ix} {rec : KeyL}
variable (B : Below A₀ base outer h₀) (F : Fr h₀ L s.heap m) (X : (hd.heap_39 w.params).In h₀) (T : Top p loose mean mg mb h₀) (hdp : dp + 100 < recursionLimit) (hun : un + 1000 < cLine)
include B F X T hdp hun

theorem P3' {st : Stmt} {oc : Obj} {v₀ : Option Value} (hcl : cl.lookup (Str.ofString "gone") = some cg) (hcg : s.heap.get? cg = some oc) (ncg : cg ≠ L) (zcg : h₀.get? cg = none) (dcg : oc.data = .cell v₀)
    (ret : ∀ h' tk' (lg lh : Addr) (ga ha : Nat → Addr) (gv hv : List Value) oc', Fr h₀ L h' (fun y => if y = Str.ofString "held" then some (.ref lh) else m y) → Keep s.heap h' [L, cg] → h'.get? cg = some oc' → oc'.data = .cell (some (.ref lg)) →
      (h'.get? lg = some (listOf gv.toArray 0) ∧ lg ≠ L ∧ h₀.get? lg = none) → (h'.get? lh = some (listOf hv.toArray 0) ∧ lh ≠ L ∧ h₀.get? lh = none) → (∀ k, k < 6 → gv[k]? = some (.ref (ga k)) ∧ hv[k]? = some (.ref (ha k))) →
      (∀ k, k < 6 → h'.get? (ga k) = some (listOf #[] 0) ∧ ga k ≠ L ∧ h₀.get? (ga k) = none) → (∀ k, k < 6 → (h'.get? (ha k) = some (dictOf [] 0) ∧ ha k ≠ L ∧ h₀.get? (ha k) = none) ∧ (ha k == sysModules) = false) →
      (∀ j k, j < k → k < 6 → ga j < ga k) → (∀ j k, j < k → k < 6 → ha j < ha k) → (∀ k, k < 6 → ga k < lg) → (∀ k, k < 6 → lg < ha k) → (∀ k, k < 6 → ha k < lh) → (∀ k, k < 6 → (∀ p ∈ alive h₀ L s.heap [cg], p.1 < ga k) ∧ cg < ga k) → Q .next { s with heap := h', toks := tk' }) (hst : st = nth lawB 3 := by rfl) :
    wpAny (model prog w) (ktrTop dp un gd cn lawScope L a ccd cl outer) (exec st (envX cn lawScope L a ccd cl)) Q E s := by
  have S0 : h₀.StaysIn s.heap := F.keep
  refine P3 (st := st) B F X T hdp hun hcl hcg ncg zcg dcg (hst := hst) (fun h' tk' D lg lh g0 g1 g2 g3 g4 g5 d0 d1 d2 d3 d4 d5 t oc' F' N' dc' ord lo lcg sy => ?_)
  have K := keep_alive S0 F' N' (fun p hp => by repeat (first | (with_reducible exact hp) | (with_reducible refine List.mem_cons_of_mem _ ?_)))
  obtain ⟨o1, o2, o3, o4, o5, o6, o7, o8, o9, o10, o11, o12, o13⟩ := ord
  obtain ⟨s0, s1, s2, s3, s4, s5⟩ := sy
  simp only [News, List.forall_mem_cons] at N'
  obtain ⟨_, nlh, n5, n4, n3, n2, n1, n0, nlg, m5, m4, m3, m2, m1, m0, nc, _⟩ := N'
  have hga : ∀ j k, j < k → k < 6 → [g0, g1, g2, g3, g4, g5].getD j 0 < [g0, g1, g2, g3, g4, g5].getD k 0 := mono_of_step (f := fun k => [g0, g1, g2, g3, g4, g5].getD k 0) (fun k hk => match k, hk with
    | 0, _ => o1
    | 1, _ => o2
    | 2, _ => o3
    | 3, _ => o4
    | 4, _ => o5)
  have hha : ∀ j k, j < k → k < 6 → [d0, d1, d2, d3, d4, d5].getD j 0 < [d0, d1, d2, d3, d4, d5].getD k 0 := mono_of_step (f := fun k => [d0, d1, d2, d3, d4, d5].getD k 0) (fun k hk => match k, hk with
    | 0, _ => o8
    | 1, _ => o9
    | 2, _ => o10
    | 3, _ => o11
    | 4, _ => o12)
  have le_g : ∀ k, k < 6 → g0 ≤ [g0, g1, g2, g3, g4, g5].getD k 0 := fun k hk => match k, hk with
    | 0, _ => Nat.le_refl _
    | k + 1, hk => Nat.le_of_lt (hga 0 (k + 1) (Nat.succ_pos _) hk)
  have g_le : ∀ k, k < 6 → [g0, g1, g2, g3, g4, g5].getD k 0 ≤ g5 := fun k hk => by
    by_cases e : k = 5
    · subst e; exact Nat.le_refl _
    · exact Nat.le_of_lt (hga k 5 (by omega) (by decide))
  have le_d : ∀ k, k < 6 → d0 ≤ [d0, d1, d2, d3, d4, d5].getD k 0 := fun k hk => match k, hk with
    | 0, _ => Nat.le_refl _
    | k + 1, hk => Nat.le_of_lt (hha 0 (k + 1) (Nat.succ_pos _) hk)
  have d_le : ∀ k, k < 6 → [d0, d1, d2, d3, d4, d5].getD k 0 ≤ d5 := fun k hk => by
    by_cases e : k = 5
    · subst e; exact Nat.le_refl _
    · exact Nat.le_of_lt (hha k 5 (by omega) (by decide))
  refine ret h' tk' lg lh (fun k => [g0, g1, g2, g3, g4, g5].getD k 0) (fun k => [d0, d1, d2, d3, d4, d5].getD k 0) _ _ oc' F' K nc.1 dc' nlg nlh (fun k hk => match k, hk with
    | 0, _ => ⟨rfl, rfl⟩
    | 1, _ => ⟨rfl, rfl⟩
    | 2, _ => ⟨rfl, rfl⟩
    | 3, _ => ⟨rfl, rfl⟩
    | 4, _ => ⟨rfl, rfl⟩
    | 5, _ => ⟨rfl, rfl⟩) (fun k hk => match k, hk with
    | 0, _ => m0
    | 1, _ => m1
    | 2, _ => m2
    | 3, _ => m3
    | 4, _ => m4
    | 5, _ => m5) (fun k hk => match k, hk with
    | 0, _ => ⟨n0, s0⟩
    | 1, _ => ⟨n1, s1⟩
    | 2, _ => ⟨n2, s2⟩
    | 3, _ => ⟨n3, s3⟩
    | 4, _ => ⟨n4, s4⟩
    | 5, _ => ⟨n5, s5⟩) hga hha (fun k hk => Nat.lt_of_le_of_lt (g_le k hk) o6) (fun k hk => Nat.lt_of_lt_of_le o7 (le_d k hk)) (fun k hk => Nat.lt_of_le_of_lt (d_le k hk) o13)
    (fun k hk => ⟨fun p hp => Nat.lt_of_lt_of_le (lo p hp) (le_g k hk), Nat.lt_of_lt_of_le lcg (le_g k hk)⟩)
end
end Mine
end
section
set_option maxRecDepth 100000
set_option linter.unusedVariables false
namespace Mine
open PySem PySem.W PySem.Spec PySem.Calls PyProof.Rows
theorem ow_exists {L P Pt lr : Nat} {c dc d ga ha : Nat → Nat} {n98 : List Nat}
    (hG : ∀ k, k < 6 → dc k < c k ∧ c k < d k) (hGG : ∀ j k, j < k → k < 6 → d j < dc k) (hga : ∀ j k, j < k → k < 6 → ga j < ga k) (hha : ∀ j k, j < k → k < 6 → ha j < ha k)
    (d1 : L ≠ P ∧ L ≠ Pt ∧ L ≠ lr ∧ P ≠ Pt ∧ P ≠ lr ∧ Pt ≠ lr) (d2 : ∀ x ∈ [L, P, Pt, lr], ∀ k, k < 6 → x ≠ c k ∧ x ≠ dc k ∧ x ≠ d k ∧ x ≠ ga k ∧ x ≠ ha k)
    (d3 : ∀ j k, j < 6 → k < 6 → d j < ga k) (d4 : ∀ j k, j < 6 → k < 6 → ga j < ha k) (d5 : ∀ x ∈ n98, x ∉ [L, P, Pt, lr] ∧ ∀ k, k < 6 → x ≠ c k ∧ x ≠ dc k ∧ x ≠ d k ∧ x ≠ ga k ∧ x ≠ ha k) :
    ∃ ow : Nat → Nat, ow L = 99 ∧ ow P = 95 ∧ ow Pt = 96 ∧ ow lr = 97 ∧ (∀ k, k < 6 → ow (c k) = k ∧ ow (dc k) = k ∧ ow (d k) = k ∧ ow (ga k) = 10 + k ∧ ow (ha k) = 20 + k) ∧ ∀ x ∈ n98, ow x = 98 := by
  classical
  let isG : Nat → Nat → Prop := fun a k => k < 6 ∧ (a = c k ∨ a = dc k ∨ a = d k)
  let isA : Nat → Nat → Prop := fun a k => k < 6 ∧ a = ga k
  let isH : Nat → Nat → Prop := fun a k => k < 6 ∧ a = ha k
  let ow : Nat → Nat := fun a => if a = L then 99 else if a = P then 95 else if a = Pt then 96 else if a = lr then 97 else
    if h : ∃ k, isG a k then Classical.choose h else if h : ∃ k, isA a k then 10 + Classical.choose h else if h : ∃ k, isH a k then 20 + Classical.choose h else 98
  have off : ∀ a, a ∉ [L, P, Pt, lr] → ow a = if h : ∃ k, isG a k then Classical.choose h else if h : ∃ k, isA a k then 10 + Classical.choose h else if h : ∃ k, isH a k then 20 + Classical.choose h else 98 := fun a ha => by
    simp only [List.mem_cons, List.not_mem_nil, or_false, not_or] at ha
    show (if a = L then _ else _) = _
    rw [if_neg ha.1, if_neg ha.2.1, if_neg ha.2.2.1, if_neg ha.2.2.2]
  have uG : ∀ a j k, isG a j → isG a k → j = k := fun a j k ⟨hj, ej⟩ ⟨hk, ek⟩ => by
    have a1 := hG j hj
    have a2 := hG k hk
    rcases Nat.lt_trichotomy j k with h | h | h
    · have := hGG j k h hk; omega
    · exact h
    · have := hGG k j h hj; omega
  have uA : ∀ a j k, isA a j → isA a k → j = k := fun a j k ⟨hj, ej⟩ ⟨hk, ek⟩ => by
    rcases Nat.lt_trichotomy j k with h | h | h
    · have := hga j k h hk; omega
    · exact h
    · have := hga k j h hj; omega
  have uH : ∀ a j k, isH a j → isH a k → j = k := fun a j k ⟨hj, ej⟩ ⟨hk, ek⟩ => by
    rcases Nat.lt_trichotomy j k with h | h | h
    · have := hha j k h hk; omega
    · exact h
    · have := hha k j h hj; omega
  have GA : ∀ a j k, isG a j → ¬ isA a k := fun a j k ⟨hj, ej⟩ ⟨hk, ek⟩ => by
    have a1 := hG j hj
    have := d3 j k hj hk
    omega
  have GH : ∀ a j k, isG a j → ¬ isH a k := fun a j k ⟨hj, ej⟩ ⟨hk, ek⟩ => by
    have a1 := hG j hj
    have := d3 j j hj hj
    have := d4 j k hj hk
    omega
  have AH : ∀ a j k, isA a j → ¬ isH a k := fun a j k ⟨hj, ej⟩ ⟨hk, ek⟩ => by
    have := d4 j k hj hk
    omega
  have nin : ∀ k, k < 6 → c k ∉ [L, P, Pt, lr] ∧ dc k ∉ [L, P, Pt, lr] ∧ d k ∉ [L, P, Pt, lr] ∧ ga k ∉ [L, P, Pt, lr] ∧ ha k ∉ [L, P, Pt, lr] := fun k hk =>
    ⟨fun h => (d2 _ h k hk).1 rfl, fun h => (d2 _ h k hk).2.1 rfl, fun h => (d2 _ h k hk).2.2.1 rfl, fun h => (d2 _ h k hk).2.2.2.1 rfl, fun h => (d2 _ h k hk).2.2.2.2 rfl⟩
  have oG : ∀ a k, a ∉ [L, P, Pt, lr] → isG a k → ow a = k := fun a k hn h => by
    rw [off a hn, dif_pos ⟨k, h⟩]
    exact uG a _ _ (Classical.choose_spec (⟨k, h⟩ : ∃ k, isG a k)) h
  have oA : ∀ a k, a ∉ [L, P, Pt, lr] → isA a k → ow a = 10 + k := fun a k hn h => by
    rw [off a hn, dif_neg (fun ⟨j, hj⟩ => GA a j k hj h), dif_pos ⟨k, h⟩, uA a _ _ (Classical.choose_spec (⟨k, h⟩ : ∃ k, isA a k)) h]
  have oH : ∀ a k, a ∉ [L, P, Pt, lr] → isH a k → ow a = 20 + k := fun a k hn h => by
    rw [off a hn, dif_neg (fun ⟨j, hj⟩ => GH a j k hj h), dif_neg (fun ⟨j, hj⟩ => AH a j k hj h), dif_pos ⟨k, h⟩, uH a _ _ (Classical.choose_spec (⟨k, h⟩ : ∃ k, isH a k)) h]
  refine ⟨ow, if_pos rfl, ?_, ?_, ?_, fun k hk => ?_, fun x hx => ?_⟩
  · show (if P = L then _ else _) = _
    rw [if_neg (Ne.symm d1.1), if_pos rfl]
  · show (if Pt = L then _ else _) = _
    rw [if_neg (Ne.symm d1.2.1), if_neg (Ne.symm d1.2.2.2.1), if_pos rfl]
  · show (if lr = L then _ else _) = _
    rw [if_neg (Ne.symm d1.2.2.1), if_neg (Ne.symm d1.2.2.2.2.1), if_neg (Ne.symm d1.2.2.2.2.2), if_pos rfl]
  · obtain ⟨n1, n2, n3, n4, n5⟩ := nin k hk
    exact ⟨oG _ _ n1 ⟨hk, .inl rfl⟩, oG _ _ n2 ⟨hk, .inr (.inl rfl)⟩, oG _ _ n3 ⟨hk, .inr (.inr rfl)⟩, oA _ _ n4 ⟨hk, rfl⟩, oH _ _ n5 ⟨hk, rfl⟩⟩
  · obtain ⟨n, e⟩ := d5 x hx
    rw [off x n, dif_neg (fun ⟨k, hk, h⟩ => by have := e k hk; omega), dif_neg (fun ⟨k, hk, h⟩ => by have := e k hk; omega), dif_neg (fun ⟨k, hk, h⟩ => by have := e k hk; omega)]
end Mine
end
section
set_option maxRecDepth 100000
set_option linter.unusedVariables false
set_option linter.unusedSectionVars false
set_option maxHeartbeats 2000000
namespace Mine
open PySem PySem.W PySem.Spec PySem.Calls PyProof.Rows
theorem lawB_eq : ∃ s0 s1 s2 s3 s4 s5 s6 s7, s0 = nth lawB 0 ∧ s1 = nth lawB 1 ∧ s2 = nth lawB 2 ∧ s3 = nth lawB 3 ∧ s4 = nth lawB 4 ∧ s5 = nth lawB 5 ∧ s6 = nth lawB 6 ∧ s7 = nth lawB 7 ∧ lawB = [s0, s1, s2, s3, s4, s5, s6, s7] := ⟨_, _, _, _, _, _, _, _, rfl, rfl, rfl, rfl, rfl, rfl, rfl, rfl, rfl⟩
theorem ints_at {vs : List Value} {ns : List Int} (h : IntsAre vs ns) : ∀ i, i < vs.toArray.size → ∃ v t, vs.toArray[i]? = some (.int v t) := by
  intro i hi
  have hl := h.length
  simp only [List.size_toArray] at hi
  obtain ⟨t, ht⟩ := h.get i ns[i] (by rw [List.getElem?_eq_getElem])
  exact ⟨_, t, by simpa using ht⟩
section
variable {prog : Program} {w : World} {p : Program} {loose : List Str} {mean : ExcName → Option Value} {mg mb : Str → Option Value}
  {dp un : Nat} {gd : Option (List Code)} {cn : Str} {a : Addr} {ccd : Value} {cl : List (Str × Addr)} {outer : List Env} {A₀ : Around} {base h₀ : Heap} {L : Addr} {m : Str → Option Value} {s : Shared} {Q : Flow → Shared → Prop} {E : Value → Shared → Prop}
  {ow : Addr → Nat} {k : Nat} {q : Key} {key : Value} {tk tf ts tt : Tok} {far size turn : Int} {cg : Addr} {S : St} {g : Nat → Ix} {rec : KeyL}
variable (B : Below A₀ base outer h₀) (F : Fr h₀ L s.heap m) (X : (hd.heap_39 w.params).In h₀) (T : Top p loose mean mg mb h₀) (hdp : dp + 100 < recursionLimit) (hun : un + 1000 < cLine)
include B F X T hdp hun

theorem law_body {c P l : Addr} {vs : List Value} {ns : List Int} {oc : Obj} {v₀ : Option Value} (hBase : h₀ = base) (C : CodeHd h₀ c P) (hcd : ccd = .ref c) (hP : s.heap.get? P = some (tabObj #[])) (zP : h₀.get? P = none) (nP : P ≠ L) (nPcg : P ≠ cg)
    (hcg : s.heap.get? cg = some oc) (ncg : cg ≠ L) (zcg : h₀.get? cg = none) (dcg : oc.data = .cell v₀) (hl : h₀.IsList l vs.toArray) (hi : IntsAre vs ns) (hn : ns.length ≤ 63) (m_script : m (Str.ofString "script") = some (.ref l))
    (ret : ∀ h' tk' m' ps, Fr h₀ L h' m' → h'.get? P = some (tabObj ps) → Q (.ret (.bool true)) { s with heap := h', toks := tk' }) :
    wpAny (model prog w) (ktrTop dp un gd cn lawScope L a ccd [(Str.ofString "gone", cg)] outer) (execs lawB (envX cn lawScope L a ccd [(Str.ofString "gone", cg)])) Q E s := by
  obtain ⟨s0, s1, s2, s3, s4, s5, s6, s7, e0, e1, e2, e3, e4, e5, e6, e7, eB⟩ := lawB_eq
  rw [eB]
  refine wpAny_execs_cons (P0 B F X T hdp hun (fun h0 tk0 lr0 rv n0 F0 K0 hlr0 hir flr0 nlr0 zlr0 => ?_) e0)
  refine wpAny_execs_cons (P1 (m := fun y => if y = Str.ofString "rest" then some (.ref lr0) else m y) B F0 X T hdp hun hl hi hn hir rfl hlr0 nlr0 zlr0 m_script rfl (fun h1 tk1 lv ws zs n1 F1 K1 hlv hiz hz24 flv nlv zlv => ?_) e1)
  have up0 : ∀ b o, b ≠ L → s.heap.get? b = some o → h0.get? b = some o := fun b o n e => K0 b o e (by simpa using n)
  have up1 : ∀ b o, b ≠ L → s.heap.get? b = some o → h1.get? b = some o := fun b o n e => K1 b o (up0 b o n e) (by simpa using n)
  refine wpAny_execs_cons (P2 B F1 X T hdp hun (fun h2 tk2 D ys news G F2 N2 o2 hM => ?_) e2)
  have K2 : Keep h1 h2 [L] := keep_alive F1.keep F2 N2 (fun p hp => .tail _ (hM.2.2.2 p hp))
  have up12 : ∀ b o, b ≠ L → h1.get? b = some o → h2.get? b = some o := fun b o n e => K2 b o e (by simpa using n)
  refine wpAny_execs_cons (P3' B F2 X T hdp hun rfl (up12 _ _ ncg (up1 _ _ ncg hcg)) ncg zcg dcg
    (fun h3 tk3 lg lh ga ha gv hv oc3 F3 K3 hcg3 dcg3 hlg hlh hgh hga hha mga mha glg lgh hlh' lo => ?_) e3)
  have hP2 : h2.get? P = some (tabObj #[]) := up12 _ _ nP (up1 _ _ nP hP)
  have hlv2 := up12 _ _ nlv hlv
  have hcg2 := up12 _ _ ncg (up1 _ _ ncg hcg)
  have up23 : ∀ b o, b ≠ L → b ≠ cg → h2.get? b = some o → h3.get? b = some o := fun b o n1 n2 e => K3 b o e (by simp only [List.mem_cons, List.not_mem_nil, or_false, not_or]; exact ⟨n1, n2⟩)
  have nlvP : lv ≠ P := fun e => by rw [e, up0 _ _ nP hP] at flv; cases flv
  have nlvcg : lv ≠ cg := fun e => by rw [e, up0 _ _ ncg hcg] at flv; cases flv
  have hP3 := up23 _ _ nP nPcg hP2
  refine wpAny_execs_cons (P4 F3 T C hcd hP3 zP nP (fun h4 tk4 ft ct Pt doc pm ctv ps' F4 K4 hft hcr hch htab hP4 lft lct lPt n1 n2 n3 => ?_) e4)
  refine wpAny_execs_cons (P5 B F4 X T hdp hun (fun h5 tk5 lr F5 K5 hlr flr nlr zlr => ?_) e5)
  have up34 : ∀ b o, b ≠ L → b ≠ P → h3.get? b = some o → h4.get? b = some o := fun b o n1 n2 e => K4 b o e (by simp only [List.mem_cons, List.not_mem_nil, or_false, not_or]; exact ⟨n1, n2⟩)
  have up45 : ∀ b o, b ≠ L → h4.get? b = some o → h5.get? b = some o := fun b o n e => K5 b o e (by simpa using n)
  have up25 : ∀ b o, b ≠ L → b ≠ cg → b ≠ P → h2.get? b = some o → h5.get? b = some o := fun b o n1 n2 n3 e => up45 b o n1 (up34 b o n1 n3 (up23 b o n1 n2 e))
  have up35 : ∀ b o, b ≠ L → b ≠ P → h3.get? b = some o → h5.get? b = some o := fun b o n1 n3 e => up45 b o n1 (up34 b o n1 n3 e)
  -- order
  have inA1 : ∀ b o, h1.get? b = some o → b ≠ L → h₀.get? b = none → (b, o) ∈ alive h₀ L h1 [] := fun b o e n z => in_alive e n z (by simp)
  have inA2 : ∀ b o, h2.get? b = some o → b ≠ L → h₀.get? b = none → b ≠ cg → (b, o) ∈ alive h₀ L h2 [cg] := fun b o e n z q => in_alive e n z (by simpa using q)
  have mk : ∀ k, k < 6 → MadeAt w (alive h₀ L h1 []) news ys k (G k) := hM.1
  have gc : ∀ k, k < 6 → h2.get? (G k).c = some (instObj 189 (G k).dc) ∧ (G k).c ≠ L ∧ h₀.get? (G k).c = none := fun k hk => N2 _ (.tail _ (mk k hk).2.2.2.2.2.1)
  have gd' : ∀ k, k < 6 → h2.get? (G k).d = some (dictK w [] 0) ∧ (G k).d ≠ L ∧ h₀.get? (G k).d = none := fun k hk => N2 _ (.tail _ (mk k hk).2.2.2.2.1)
  have gdc : ∀ k, k < 6 → (∃ t1 t2 t3 t4 t5 tm ta, h2.get? (G k).dc = some (cacheD w.params t1 t2 t3 t4 t5 (.ref (G k).d) .none .none (.int (1 + (k : Int)) tm) (.int (1 + (k : Int)) ta))) ∧ (G k).dc ≠ L ∧ h₀.get? (G k).dc = none := fun k hk => by
    obtain ⟨t1, t2, t3, t4, t5, tm, ta, hm⟩ := (mk k hk).2.2.2.2.2.2.1
    have := N2 _ (.tail _ hm)
    exact ⟨⟨t1, t2, t3, t4, t5, tm, ta, this.1⟩, this.2⟩
  have lt1 : ∀ k, k < 6 → ∀ (b : Addr) (o : Obj), (b, o) ∈ alive h₀ L h1 [] → @LT.lt Nat _ b (G k).dc := fun k hk b o hm => (mk k hk).2.2.2.2.2.2.2 (b, o) hm
  have lt2 : ∀ k, k < 6 → ∀ (b : Addr) (o : Obj), (b, o) ∈ alive h₀ L h2 [cg] → @LT.lt Nat _ b (ga k) := fun k hk b o hm => (lo k hk).1 (b, o) hm
  have oP : ∀ k, k < 6 → @LT.lt Nat _ P (G k).dc ∧ @LT.lt Nat _ cg (G k).dc ∧ @LT.lt Nat _ lv (G k).dc ∧ @LT.lt Nat _ (G k).dc (G k).c ∧ @LT.lt Nat _ (G k).c (G k).d := fun k hk =>
    ⟨lt1 k hk _ _ (inA1 _ _ (up1 _ _ nP hP) nP zP), lt1 k hk _ _ (inA1 _ _ (up1 _ _ ncg hcg) ncg zcg), lt1 k hk _ _ (inA1 _ _ hlv nlv zlv), (mk k hk).1, (mk k hk).2.1⟩
  have oGG : ∀ j k, j < k → k < 6 → @LT.lt Nat _ (G j).d (G k).dc := hM.2.1
  have hD := N2 (D, LCg.lst ys) (.head _)
  have offD : ∀ p ∈ news, @Ne Nat p.1 D := by
    clear N2 hM
    have go : ∀ l : List (Addr × Obj), LCg.Off1 D l → ∀ p ∈ l, @Ne Nat p.1 D := fun l => by
      induction l with
      | nil => exact fun _ p hp => absurd hp List.not_mem_nil
      | cons q r ih =>
        intro h p hp
        rcases List.mem_cons.mp hp with rfl | hp
        · exact h.1
        · exact ih h.2 p hp
    exact go _ o2
  have nDP : @Ne Nat P D := offD (P, _) (hM.2.2.2 (P, _) (inA1 P _ (up1 _ _ nP hP) nP zP))
  have nDcg : @Ne Nat cg D := offD (cg, _) (hM.2.2.2 (cg, _) (inA1 cg _ (up1 _ _ ncg hcg) ncg zcg))
  have nDG : ∀ k, k < 6 → @Ne Nat (G k).c D ∧ @Ne Nat (G k).dc D ∧ @Ne Nat (G k).d D := fun k hk => ⟨offD ((G k).c, _) (mk k hk).2.2.2.2.2.1, (by obtain ⟨_, _, _, _, _, _, _, hm⟩ := (mk k hk).2.2.2.2.2.2.1; exact offD ((G k).dc, _) hm), offD ((G k).d, _) (mk k hk).2.2.2.2.1⟩
  have oA : ∀ k, k < 6 → @LT.lt Nat _ P (ga k) ∧ @LT.lt Nat _ cg (ga k) ∧ @LT.lt Nat _ lv (ga k) ∧ @LT.lt Nat _ D (ga k) := fun k hk =>
    ⟨lt2 k hk _ _ (inA2 _ _ hP2 nP zP nPcg), (lo k hk).2, lt2 k hk _ _ (inA2 _ _ hlv2 nlv zlv nlvcg), lt2 k hk _ _ (inA2 _ _ hD.1 hD.2.1 hD.2.2 (Ne.symm nDcg))⟩
  have oGA : ∀ j k, j < 6 → k < 6 → @LT.lt Nat _ (G j).d (ga k) := fun j k hj hk => lt2 k hk _ _ (inA2 _ _ (gd' j hj).1 (gd' j hj).2.1 (gd' j hj).2.2 (by have := oP j hj; exact Nat.ne_of_gt (Nat.lt_trans (Nat.lt_trans this.2.1 this.2.2.2.1) this.2.2.2.2)))
  have oga : ∀ j k, j < k → k < 6 → @LT.lt Nat _ (ga j) (ga k) := mga
  have oha : ∀ j k, j < k → k < 6 → @LT.lt Nat _ (ha j) (ha k) := mha
  have ogl : ∀ k, k < 6 → @LT.lt Nat _ (ga k) lg := glg
  have olh : ∀ k, k < 6 → @LT.lt Nat _ lg (ha k) := lgh
  have ohl : ∀ k, k < 6 → @LT.lt Nat _ (ha k) lh := hlh'
  have sz3 : ∀ b o, h3.get? b = some o → @LT.lt Nat _ b h3.objs.size := fun b o e => Heap.lt_size e
  have szL : @LT.lt Nat _ L h3.objs.size := F3.ns.lt
  have lft' : @LE.le Nat _ h3.objs.size ft := lft
  have lct' : @LE.le Nat _ h3.objs.size ct := lct
  have lPt' : @LE.le Nat _ h3.objs.size Pt := lPt
  have nr4 : ∀ b o, h4.get? b = some o → @Ne Nat b lr := fun b o e q => by subst q; rw [e] at flr; cases flr
  have cgOff : ∀ k, k < 6 → (G k).c ≠ cg ∧ (G k).dc ≠ cg ∧ (G k).d ≠ cg := fun k hk => by
    have := oP k hk
    exact ⟨Nat.ne_of_gt (Nat.lt_trans this.2.1 this.2.2.2.1), Nat.ne_of_gt this.2.1, Nat.ne_of_gt (Nat.lt_trans (Nat.lt_trans this.2.1 this.2.2.2.1) this.2.2.2.2)⟩
  have POff : ∀ k, k < 6 → (G k).c ≠ P ∧ (G k).dc ≠ P ∧ (G k).d ≠ P := fun k hk => by
    have := oP k hk
    exact ⟨Nat.ne_of_gt (Nat.lt_trans this.1 this.2.2.2.1), Nat.ne_of_gt this.1, Nat.ne_of_gt (Nat.lt_trans (Nat.lt_trans this.1 this.2.2.2.1) this.2.2.2.2)⟩
  have alG : ∀ k, k < 6 → (∃ o, h3.get? (G k).c = some o) ∧ (∃ o, h3.get? (G k).dc = some o) ∧ ∃ o, h3.get? (G k).d = some o := fun k hk => by
    obtain ⟨⟨_, _, _, _, _, _, _, e⟩, n, z⟩ := gdc k hk
    exact ⟨⟨_, up23 _ _ (gc k hk).2.1 (cgOff k hk).1 (gc k hk).1⟩, ⟨_, up23 _ _ n (cgOff k hk).2.1 e⟩, ⟨_, up23 _ _ (gd' k hk).2.1 (cgOff k hk).2.2 (gd' k hk).1⟩⟩
  have s3' : ∀ k, k < 6 → @LT.lt Nat _ (G k).c h3.objs.size ∧ @LT.lt Nat _ (G k).dc h3.objs.size ∧ @LT.lt Nat _ (G k).d h3.objs.size ∧ @LT.lt Nat _ (ga k) h3.objs.size ∧ @LT.lt Nat _ (ha k) h3.objs.size := fun k hk => by
    obtain ⟨⟨_, a1⟩, ⟨_, a2⟩, ⟨_, a3⟩⟩ := alG k hk
    exact ⟨sz3 _ _ a1, sz3 _ _ a2, sz3 _ _ a3, sz3 _ _ (hga k hk).1, sz3 _ _ (hha k hk).1.1⟩
  have nPga : ∀ k, k < 6 → ga k ≠ P := fun k hk => Nat.ne_of_gt (oA k hk).1
  have nPha : ∀ k, k < 6 → ha k ≠ P := fun k hk => Nat.ne_of_gt (Nat.lt_trans (oA k hk).1 (Nat.lt_trans (ogl k hk) (olh k hk)))
  have r4 : ∀ k, k < 6 → @Ne Nat (G k).c lr ∧ @Ne Nat (G k).dc lr ∧ @Ne Nat (G k).d lr ∧ @Ne Nat (ga k) lr ∧ @Ne Nat (ha k) lr := fun k hk => by
    obtain ⟨⟨_, a1⟩, ⟨_, a2⟩, ⟨_, a3⟩⟩ := alG k hk
    exact ⟨nr4 _ _ (up34 _ _ (gc k hk).2.1 (POff k hk).1 a1), nr4 _ _ (up34 _ _ (gdc k hk).2.1 (POff k hk).2.1 a2), nr4 _ _ (up34 _ _ (gd' k hk).2.1 (POff k hk).2.2 a3), nr4 _ _ (up34 _ _ (hga k hk).2.1 (nPga k hk) (hga k hk).1), nr4 _ _ (up34 _ _ (hha k hk).1.2.1 (nPha k hk) (hha k hk).1.1)⟩
  have alD3 := up23 D _ hD.2.1 (Ne.symm nDcg) hD.1
  have alv3 := up23 lv _ nlv nlvcg hlv2
  obtain ⟨oct, hct4⟩ : ∃ o, h4.get? ct = some o := by obtain ⟨o, vs, file, tf, flags, tg, inF, text, tt, e, r⟩ := hch; exact ⟨o, e⟩
  have nlhP : @Ne Nat lh P := by
    have a := oA 0 (by decide)
    have b := ogl 0 (by decide)
    have c' := olh 0 (by decide)
    have d' := ohl 0 (by decide)
    omega
  have nlgP : @Ne Nat lg P := by
    have a := oA 0 (by decide)
    have b := ogl 0 (by decide)
    omega
  have notin : ∀ x : Nat, @Ne Nat x L → @Ne Nat x P → @Ne Nat x Pt → @Ne Nat x lr → x ∉ ([L, P, Pt, lr] : List Nat) := fun x a b c' d' => by
    simp only [List.mem_cons, List.not_mem_nil, or_false, not_or]
    exact ⟨a, b, c', d'⟩
  have ltPt : ∀ b o, h3.get? b = some o → @Ne Nat b Pt := fun b o e => Nat.ne_of_lt (Nat.lt_of_lt_of_le (sz3 b o e) lPt')
  obtain ⟨ow, oL, oPP, oPt, olr', oK, o98⟩ := ow_exists (L := L) (P := P) (Pt := Pt) (lr := lr) (c := fun k => (G k).c) (dc := fun k => (G k).dc) (d := fun k => (G k).d) (ga := ga) (ha := ha) (n98 := [D, lh, lv, ft, ct, cg, lg])
    (fun k hk => ⟨(oP k hk).2.2.2.1, (oP k hk).2.2.2.2⟩) oGG oga oha
    ⟨Ne.symm nP, Nat.ne_of_lt (Nat.lt_of_lt_of_le szL lPt'), Ne.symm nlr, ltPt _ _ hP3, nr4 _ _ hP4, nr4 _ _ htab⟩
    (by
      simp only [List.forall_mem_cons]
      refine ⟨fun k hk => ⟨Ne.symm (gc k hk).2.1, Ne.symm (gdc k hk).2.1, Ne.symm (gd' k hk).2.1, Ne.symm (hga k hk).2.1, Ne.symm (hha k hk).1.2.1⟩, fun k hk => ⟨Ne.symm (POff k hk).1, Ne.symm (POff k hk).2.1, Ne.symm (POff k hk).2.2, Ne.symm (nPga k hk), Ne.symm (nPha k hk)⟩,
        fun k hk => ?_, fun k hk => ⟨Ne.symm (r4 k hk).1, Ne.symm (r4 k hk).2.1, Ne.symm (r4 k hk).2.2.1, Ne.symm (r4 k hk).2.2.2.1, Ne.symm (r4 k hk).2.2.2.2⟩, fun x hx => absurd hx List.not_mem_nil⟩
      have z := s3' k hk
      refine ⟨?_, ?_, ?_, ?_, ?_⟩ <;> omega)
    oGA (fun j k hj hk => Nat.lt_trans (ogl j hj) (olh k hk))
    (by
      simp only [List.forall_mem_cons]
      refine ⟨⟨notin _ hD.2.1 (Ne.symm nDP) (ltPt _ _ alD3) (nr4 _ _ (up34 _ _ hD.2.1 (Ne.symm nDP) alD3)), fun k hk => ?_⟩,
        ⟨notin _ hlh.2.1 nlhP (ltPt _ _ hlh.1) (nr4 _ _ (up34 _ _ hlh.2.1 nlhP hlh.1)), fun k hk => ?_⟩,
        ⟨notin _ nlv nlvP (ltPt _ _ alv3) (nr4 _ _ (up34 _ _ nlv nlvP alv3)), fun k hk => ?_⟩,
        ⟨notin _ (Nat.ne_of_gt (Nat.lt_of_lt_of_le szL lft')) (Nat.ne_of_gt (Nat.lt_of_lt_of_le (sz3 _ _ hP3) lft')) n3 (nr4 _ _ hft), fun k hk => ?_⟩,
        ⟨notin _ (Nat.ne_of_gt (Nat.lt_of_lt_of_le szL lct')) (Nat.ne_of_gt (Nat.lt_of_lt_of_le (sz3 _ _ hP3) lct')) n1 (nr4 _ _ hct4), fun k hk => ?_⟩,
        ⟨notin _ ncg (Ne.symm nPcg) (ltPt _ _ hcg3) (nr4 _ _ (up34 _ _ ncg (Ne.symm nPcg) hcg3)), fun k hk => ?_⟩,
        ⟨notin _ hlg.2.1 nlgP (ltPt _ _ hlg.1) (nr4 _ _ (up34 _ _ hlg.2.1 nlgP hlg.1)), fun k hk => ?_⟩, fun x hx => absurd hx List.not_mem_nil⟩
      · have z := nDG k hk
        have a := oA k hk
        have b := ogl k hk
        have c' := olh k hk
        exact ⟨Ne.symm z.1, Ne.symm z.2.1, Ne.symm z.2.2, Nat.ne_of_lt a.2.2.2, Nat.ne_of_lt (Nat.lt_trans a.2.2.2 (Nat.lt_trans b c'))⟩
      all_goals
        have z1 := oP k hk
        have z2 := oGA k k hk hk
        have z3 := oA k hk
        have z4 := ogl k hk
        have z5 := olh k hk
        have z6 := ohl k hk
        have z7 := s3' k hk
        refine ⟨?_, ?_, ?_, ?_, ?_⟩ <;> omega)
  have cw : ∀ k : Nat, (1 + (k : Int)) = (k : Int) + 1 := fun k => Int.add_comm _ _
  have w98 : ∀ x ∈ [D, lh, lv, ft, ct, cg, lg], ow x = 98 := o98
  obtain ⟨S, hS⟩ : ∃ S : St, S = { lc := D, lg := lg, lh := lh, lr := lr, lv := lv, ft := ft, ct := ct, Pt := Pt, tq := qualnameIn (envX cn lawScope L a ccd [(Str.ofString "gone", cg)]) (Str.ofString "teller") (Str.ofString "teller"), cv := ws.toArray } := ⟨_, rfl⟩
  have hIx : ∀ k, k < 6 → IxAt prog w h5 ow h₀ L k { c := (G k).c, dc := (G k).dc, d := (G k).d, gk := ga k, hk := ha k, recs := [], its := #[], ng := 0, xs := [], nx := 0 } := fun k hk => by
    obtain ⟨q1, q2, q3, q4, q5⟩ := oK k hk
    have z := oP k hk
    obtain ⟨⟨t1, t2, t3, t4, t5, tm, ta, e⟩, ndc, zdc⟩ := gdc k hk
    have ec := up25 _ _ (gc k hk).2.1 (cgOff k hk).1 (POff k hk).1 (gc k hk).1
    have ed := up25 _ _ (gd' k hk).2.1 (cgOff k hk).2.2 (POff k hk).2.2 (gd' k hk).1
    have edc := up25 _ _ ndc (cgOff k hk).2.1 (POff k hk).2.1 e
    rw [cw k] at edc
    exact {
      cache := {
        inst := ec
        dict := ⟨t1, t2, t3, t4, t5, tm, ta, edc⟩
        ents := ⟨[], 0, ed, ⟨fun x hx => absurd hx List.not_mem_nil, List.nodup_nil⟩, fun x hx => absurd hx List.not_mem_nil, rfl, fun x hx => absurd hx List.not_mem_nil⟩
        seg := trivial
        keys := fun x hx => absurd hx List.not_mem_nil
        tell := fun x hx => absurd hx List.not_mem_nil
        own := by
          simp only [adr, List.forall_mem_cons]
          exact ⟨⟨q1, (gc k hk).2⟩, ⟨q2, ndc, zdc⟩, ⟨q3, (gd' k hk).2⟩, fun x hx => absurd hx List.not_mem_nil⟩
        nodup := by
          simp only [adr, List.nodup_cons, List.mem_cons, List.not_mem_nil, or_false, not_or, List.nodup_nil, not_false_eq_true, and_true]
          exact ⟨⟨Nat.ne_of_gt z.2.2.2.1, Nat.ne_of_lt z.2.2.2.2⟩, Nat.ne_of_lt (Nat.lt_trans z.2.2.2.1 z.2.2.2.2)⟩
        sysd := (mk k hk).2.2.1
        nodupK := List.nodup_nil
        small := Nat.zero_le _ }
      gone := up35 _ _ (hga k hk).2.1 (nPga k hk) (hga k hk).1
      gown := ⟨q4, (hga k hk).2⟩
      held := up35 _ _ (hha k hk).1.2.1 (nPha k hk) (hha k hk).1.1
      hown := ⟨q5, (hha k hk).1.2⟩
      hsys := (hha k hk).2
      keyed := ⟨fun x hx => absurd hx List.not_mem_nil, List.nodup_nil⟩
      ko := fun x hx => absurd hx List.not_mem_nil
      hlen := rfl
      hlook := fun x hx => absurd hx List.not_mem_nil }
  have z0 : ∀ b, @LE.le Nat _ h3.objs.size b → h₀.get? b = none := fun b hb => Heap.get?_none_of_le (Nat.le_trans F3.above (Nat.le_trans (Nat.le_of_lt szL) hb))
  have hL3 : ∀ b, @LE.le Nat _ h3.objs.size b → b ≠ L := fun b hb => Nat.ne_of_gt (Nat.lt_of_lt_of_le szL hb)
  have ctL := hL3 ct lct'
  have W5 : LawSt prog w h5 ow h₀ L cg S (fun k => { c := (G k).c, dc := (G k).dc, d := (G k).d, gk := ga k, hk := ha k, recs := [], its := #[], ng := 0, xs := [], nx := 0 }) [] := {
    ix := hIx
    lc := by
      rw [hS]
      exact ⟨_, _, up25 D _ hD.2.1 (Ne.symm nDcg) (Ne.symm nDP) hD.1, fun k hk => by simpa using (mk k hk).2.2.2.1⟩
    tell := by
      rw [hS]
      refine ⟨gv, {
        fn := ⟨doc, pm, ctv, up45 _ _ (hL3 ft lft') hft⟩
        code := by
          obtain ⟨c₂, oc', vs', t, e2', hoc, hd', hv'⟩ := hcr
          cases e2'
          exact ⟨_, _, _, _, rfl, up45 _ _ ctL hoc, hd', hv'⟩
        hd := by
          obtain ⟨o, vs', file, tf, flags, tg, inF, text, tt', e, r⟩ := hch
          exact ⟨o, vs', file, tf, flags, tg, inF, text, tt', up45 _ _ ctL e, r⟩
        tab := ⟨#[], up45 _ _ (hL3 Pt lPt') htab, .inl rfl⟩
        cell := ⟨oc3, up35 _ _ ncg (Ne.symm nPcg) hcg3, dcg3⟩
        list := ⟨0, up35 _ _ hlg.2.1 nlgP hlg.1⟩
        own98 := by
          simp only [List.forall_mem_cons]
          exact ⟨w98 _ (by simp), w98 _ (by simp), w98 _ (by simp), w98 _ (by simp), fun x hx => absurd hx List.not_mem_nil⟩
        ownP := oPt
        offL := by
          simp only [List.forall_mem_cons]
          exact ⟨⟨hL3 ft lft', z0 ft lft'⟩, ⟨ncg, zcg⟩, hlg.2, ⟨hL3 Pt lPt', z0 Pt lPt'⟩, fun x hx => absurd hx List.not_mem_nil⟩ }, fun k hk => (hgh k hk).1⟩
    lh := by
      rw [hS]
      exact ⟨_, _, up35 _ _ hlh.2.1 nlhP hlh.1, fun k hk => by simpa using (hgh k hk).2⟩
    lr := by
      rw [hS]
      exact ⟨0, hlr⟩
    lv := by
      rw [hS]
      exact ⟨_, up35 _ _ nlv nlvP alv3⟩
    own98 := by
      rw [hS]
      simp only [List.forall_mem_cons]
      exact ⟨⟨w98 _ (by simp), hD.2⟩, ⟨w98 _ (by simp), hlh.2⟩, ⟨w98 _ (by simp), nlv, zlv⟩, fun x hx => absurd hx List.not_mem_nil⟩
    ownr := by
      rw [hS]
      exact ⟨olr', nlr, zlr⟩
    keys := fun x hx => absurd hx List.not_mem_nil
    nodup := List.nodup_nil
    oL := oL }
  have hws : ws.length = zs.length := by simpa using hiz.length
  refine wpAny_execs_cons (law_loop (s := { s with heap := h5, toks := tk5 }) B F5 X T hdp hun hBase W5 (by rw [hS]; exact ⟨rfl, rfl, rfl, rfl, rfl⟩) (fun j hj => ⟨rfl, Nat.le_refl _⟩) (by rw [hS]; simpa [hws] using hz24) (by rw [hS]; exact ints_at hiz) rfl
    (fun h6 tk6 m6 ow6 g6 rec6 F6 W6 q6 => ?_) e6)
  refine wpAny_execs_cons (P7 (s := { s with heap := h6, toks := tk6 }) B F6 X T hdp hun (fun tk7 => ?_) e7)
  exact ret h6 tk7 m6 _ F6 (q6 _ _ (up45 _ _ nP hP4) oPP).1
end
end Mine
end
section
theorem Mine.off_LawZ : True := by w_top off; exact True.intro
set_option maxRecDepth 100000
set_option linter.unusedVariables false
set_option maxHeartbeats 400000
namespace Mine
open PySem PySem.W PySem.Spec PySem.Calls PyProof.Rows
theorem env_at {cn : Str} {L a : Addr} {cd : Value} : envOfC cn lawScope L a cd = envX cn lawScope L a cd [(Str.ofString "gone", L + 1)] := by
  show envX cn lawScope L a cd (cellsFrom (L + 1) lawScope.names []) = _
  rw [lawCells]
theorem deeper_at {env : Env} {cn : Str} {L a : Addr} {cd : Value} {cl : List (Str × Addr)} (h : env = envX cn lawScope L a cd cl) : callerA.deeper env = ktrTop (1 + claimMargin + 1) 7 (some []) cn lawScope L a cd cl [] := by
  subst h
  rfl
theorem law_at {prog : Program} {w : World} {p : Program} {loose : List Str} {mean : ExcName → Option Value} {mg mb : Str → Option Value} {cn : Str} {a : Addr} {h₀ : Heap} {L : Addr} {m : Str → Option Value} {s : Shared} {Q : Flow → Shared → Prop} {E : Value → Shared → Prop}
  {body : List Stmt} {sc : Scope} {l : Addr} {vs : List Value} {ns : List Int} {oc : Obj} {v₀ : Option Value}
  (B : Below callerA h₀ [] h₀) (F : Fr h₀ L s.heap m) (X : (hd.heap_39 w.params).In h₀) (T : Top p loose mean mg mb h₀) (C : CodeHd h₀ 204 202) (N : News h₀ L s.heap [(L + 1, oc), (202, tabObj #[])]) (dcg : oc.data = .cell v₀) (hl : h₀.IsList l vs.toArray) (hi : IntsAre vs ns)
  (l9 : @LT.lt Nat _ 202 L) (hn : ¬ (63 : Int) < (ns.length : Int)) (m_script : m (Str.ofString "script") = some (.ref l))
  (hb : body = lawB) (hs : sc = lawScope)
  (ret : ∀ h' tk' m' ps, Fr h₀ L h' m' → h'.get? 202 = some (tabObj ps) → Q (.ret (.bool true)) { s with heap := h', toks := tk' }) :
  wpAny (model prog w) (callerA.deeper (envOfC cn sc L a (.ref 204))) (execs body (envOfC cn sc L a (.ref 204))) Q E s := by
  have hcg := N (_, oc) (.head _)
  have hP := N (202, _) (.tail _ (.head _))
  have hn' : ns.length ≤ 63 := by omega
  subst hb hs
  rw [deeper_at env_at, env_at]
  exact @law_body prog w p loose mean mg mb (1 + claimMargin + 1) 7 (some []) cn a (.ref 204) [] callerA h₀ h₀ L m s Q E (L + 1) B F X T (by decide) (by decide) 204 202 l vs ns oc v₀ rfl C rfl hP.1 hP.2.2 (Nat.ne_of_lt l9) (Nat.ne_of_lt (Nat.lt_succ_of_lt l9)) hcg.1 hcg.2.1 hcg.2.2 dcg hl hi hn' m_script ret
end Mine
open PySem PySem.W PySem.Spec PySem.Calls PyProof.Rows
theorem PySem.Challenge.cw_bb0035_01_holds : PySem.Challenge.rw_bb0035_01.Holds := by
  refine Mine.hd ?_
  w_on
  w_strict (
    k_go0
    (all_goals try k_fold)
    rename Frag.In _ _ => X9
    rename Top _ _ _ _ _ _ => T9
    rename Below _ _ _ _ => K9
    rename Fr _ _ _ _ => F9
    rename News _ _ _ _ => N9
    rename IntsAre _ _ => I9
    rename Obj => oc9
    rename oc9.data = _ => dc9
    rename LT.lt 202 _ => l9
    rename ¬ _ => n9
    rename _ = #[] => g9
    refine @Mine.law_at _ _ _ _ _ _ _ _ _ _ _ _ _ _ _ _ _ _ _ _ _ _ K9 F9 X9 T9 codeHd N9 dc9 lifted I9 l9 n9 ?ms ?hb ?hs ?ret
    (case hb => exact rfl)
    (case hs => exact rfl)
    (case ms => exact rfl)
    (case ret =>
      intro h' tk' m' ps F' e'
      refine And.intro ?_ ⟨⟨ps, e'⟩, True.intro⟩
      show GoodW _ _ _ _ _ (.ok (.ret (.bool true))) _
      refine goodW_bool F' g9 (raisesW_false ?_) ?_
      (· wrow_none_raised)
      (· wrow_post)))
end
